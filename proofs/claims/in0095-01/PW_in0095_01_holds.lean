import PyProof.Rows.All
import Wide.All
import OpenK.AllK
import Wide.FinOn
import PyProof.WalksMore
import PyProof.DictWalks
import PyProof.SetNew
import PyProof.SetRoads
import PyProof.ZipIter
import PyProof.AttrMiss
import Lean
import PySem.Challenge.RW_in0095_01
set_option Elab.async false
set_option compiler.extract_closed false
namespace Plain
variable {n : Nat} {U : Nat → Nat}
def Up (n : Nat) (U : Nat → Nat) : Prop := ∀ i, 0 < i → i < n → U i < i
/-- the way up, without the top -/
def upF (U : Nat → Nat) : Nat → Nat → List Nat
  | 0, _ => []
  | f + 1, p => if p = 0 then [] else p :: upF U f (U p)
def up (U : Nat → Nat) (p : Nat) : List Nat := upF U p p
theorem upF_eq (hU : Up n U) : ∀ (f g p : Nat), p < n → p ≤ f → p ≤ g → upF U f p = upF U g p := by
  intro f
  induction f with
  | zero =>
    intro g p hn hf hg
    obtain rfl : p = 0 := by omega
    cases g with
    | zero => rfl
    | succ g => simp [upF]
  | succ f ih =>
    intro g p hn hf hg
    cases g with
    | zero =>
      obtain rfl : p = 0 := by omega
      simp [upF]
    | succ g =>
      simp only [upF]
      by_cases h : p = 0
      · rw [if_pos h, if_pos h]
      · rw [if_neg h, if_neg h]
        have := hU p (by omega) hn
        rw [ih g (U p) (by omega) (by omega) (by omega)]
theorem upF_len : ∀ (f p : Nat), (upF U f p).length ≤ f
  | 0, _ => Nat.le_refl _
  | f + 1, p => by
    have := upF_len f (U p)
    simp only [upF]
    split
    · simp
    · rw [List.length_cons]; omega
theorem up_len (p : Nat) : (up U p).length ≤ p := upF_len p p
theorem up_zero : up U 0 = [] := rfl
theorem up_eq (hU : Up n U) {p : Nat} (h0 : 0 < p) (hp : p < n) : up U p = p :: up U (U p) := by
  obtain ⟨f, rfl⟩ : ∃ f, p = f + 1 := ⟨p - 1, by omega⟩
  have := hU _ h0 hp
  show upF U (f + 1) (f + 1) = _
  simp only [upF]
  rw [if_neg (by omega)]
  congr 1
  exact upF_eq hU _ _ _ (by omega) (by omega) (Nat.le_refl _)
def way (U : Nat → Nat) (p : Nat) : List Nat := (up U p).reverse
/-- once each -/
def ded : List Nat → List Nat → List Nat
  | _, [] => []
  | S, x :: l => if x ∈ S then ded S l else x :: ded (x :: S) l
theorem ded_congr : ∀ (l S S' : List Nat), (∀ x, x ∈ S ↔ x ∈ S') → ded S l = ded S' l := by
  intro l
  induction l with
  | nil => exact fun _ _ _ => rfl
  | cons a l ih =>
    intro S S' h
    simp only [ded]
    by_cases ha : a ∈ S
    · rw [if_pos ha, if_pos ((h a).mp ha)]; exact ih _ _ h
    · rw [if_neg ha, if_neg fun z => ha ((h a).mpr z)]
      rw [ih (a :: S) (a :: S') fun x => by simp [h x]]
theorem ded_skip : ∀ (l r S : List Nat), (∀ x ∈ l, x ∈ S) → ded S (l ++ r) = ded S r := by
  intro l
  induction l with
  | nil => exact fun _ _ _ => rfl
  | cons a l ih =>
    intro r S h
    simp only [List.cons_append, ded]
    rw [if_pos (h a (.head _))]
    exact ih r S fun x hx => h x (.tail _ hx)
theorem up_lt (hU : Up n U) : ∀ p, p < n → ∀ x ∈ up U p, x < n ∧ 0 < x := by
  intro p
  induction p using Nat.strongRecOn with
  | ind p ih =>
    intro hp x hx
    rcases Nat.eq_zero_or_pos p with z | z
    · rw [z, up_zero] at hx; cases hx
    · rw [up_eq hU z hp] at hx
      rcases List.mem_cons.mp hx with rfl | hx
      · exact ⟨hp, z⟩
      · exact ih _ (hU p z hp) (Nat.lt_trans (hU p z hp) hp) x hx
theorem flatMap_len {α β : Type} {f : α → List β} {k : Nat} : ∀ {l : List α}, (∀ x ∈ l, (f x).length ≤ k) → (l.flatMap f).length ≤ l.length * k
  | [], _ => Nat.le_of_eq (by simp)
  | a :: l, h => by
    have h1 := flatMap_len (l := l) fun x hx => h x (.tail _ hx)
    have h2 := h a (.head _)
    rw [List.flatMap_cons, List.length_append, List.length_cons, Nat.succ_mul]
    omega
end Plain
open PySem PySem.W PyProof.Rows PySem.Calls
set_option maxRecDepth 100000
set_option maxHeartbeats 8000000
namespace Mine
def vw : Program := PySem.W.view PySem.Challenge.pw_in0095_01 [0, 2, 3, 4, 5, 7, 9, 10, 11, 12, 14, 15, 16, 18, 19, 20, 21, 22, 23, 24]
abbrev lg : List Str := looseW vw [Str.ofString "islice", Str.ofString "filterfalse", Str.ofString "_dedupe"] ++ (recsOf vw).map (·.name) ++ (litsOf vw).map (·.1) ++ (clssOf vw (looseW vw [Str.ofString "islice", Str.ofString "filterfalse", Str.ofString "_dedupe"])).map (·.name)
local macro_rules
  | `(tactic| o_head $H) => do
    let (hw, hc) := (Lean.mkIdent `hw, Lean.mkIdent `hc)
    `(tactic| refine holds_open (q := Mine.vw) (loose := [PySem.Str.ofString "islice", PySem.Str.ofString "filterfalse", PySem.Str.ofString "_dedupe"]) (Xt := fun s => xlAt Mine.vw [] s && recOk (RowW.records (OpenRow.toRowW (OpenLaw.row PySem.Challenge.rw_in0095_01))) s) (XP := XL Mine.vw []) (Yf := Hook.obs $H) (Ya := Hook.val $H) (YP := Hook.says $H) (N := 2590) (fun w => by kernel_rfl) (Hook.of $H) (Hook.keeps $H) (fun s e => xl_of s (Bool.and_eq_true_iff.mp e).1) XL.keeps (by rfl) (by rfl) (by rfl) (fun s e => recFacts_of (Bool.and_eq_true_iff.mp e).2) (by rfl) (by first | assumption | decide +kernel) (by decide +kernel) ⟨rfl, rfl, rfl, rfl, rfl, by decide +kernel⟩ ?$hw ?$hc)
local macro_rules
  | `(tactic| o_law) => `(tactic| refine holds_law (by kernel_rfl) fun said => ?_)
open_top hd for PySem.Challenge.rw_in0095_01
end Mine
namespace Mine
open Lean in
def ltr (x : MacroM (TSyntax `tactic)) (c : Char) : MacroM (TSyntax `tactic) :=
  if c == 'A' then `(tactic| with_reducible assumption)
  else if c == 'O' then `(tactic| omega)
  else if c == 'M' then `(tactic| k_mem)
  else if c == 'S' then `(tactic| with_unfolding_all rfl)
  else if c == 'R' then `(tactic| exact rfl)
  else if c == 'r' then `(tactic| rfl)
  else if c == 'D' then `(tactic| decide)
  else if c == 'K' then `(tactic| k_asm)
  else if c == 'U' then `(tactic| k_upd)
  else if c == 'G' then `(tactic| (intro _; with_unfolding_all rfl))
  else if c == 's' then `(tactic| (show ScopeKind.function ≠ _; decide))
  else if c == 'P' then `(tactic| ((try dsimp only); omega))
  else x
open Lean in
def rnm (i : Nat) : MacroM Ident := do return mkIdent (← Macro.addMacroScope (Name.mkSimple ("x" ++ toString i)))
open Lean in
def hole (c : Char) (i : Nat) : MacroM Term := do
  if c == '_' then `(?_) else
  let a ← rnm i
  `(?$a:ident)
open Lean in
def cas (x : MacroM (TSyntax `tactic)) (c : Char) (i : Nat) : MacroM (TSyntax `tactic) := do
  if c == '_' then `(tactic| skip) else
  let a ← rnm i
  let t ← ltr x c
  `(tactic| (case $a:ident => $t:tactic))
open Lean in
def pst (c : Char) (a b : Ident) : MacroM (TSyntax `tactic) :=
  if c == 'i' then `(tactic| all_goals intros)
  else if c == 's' then `(tactic| (try k_sweep))
  else if c == 'F' then `(tactic| ((have F' := ($a).F); (have N' := ($a).N)))
  else if c == 'l' then `(tactic| (try k_lt $a))
  else if c == 't' then `(tactic| (try dsimp only at $b:ident))
  else if c == 'd' then `(tactic| (try dsimp only [List.nil_append, List.cons_append] at $a:ident))
  else if c == 'e' then `(tactic| ((try dsimp only [List.nil_append, List.cons_append] at $a:ident); (try k_sweep)))
  else `(tactic| skip)
open Lean in
def rulx (s : Option Term) (l : Name) (p : String) (n : Nat) (c : Char) (x : MacroM (TSyntax `tactic)) : MacroM Syntax := do
  let cs := (p.toList.filter (· != '!')).zipIdx
  let as ← cs.mapM fun y => hole y.1 y.2
  let ts ← cs.mapM fun y => cas x y.1 y.2
  let w ← if p.toList.contains '!' then `(tactic| k_whole) else `(tactic| skip)
  let a := Syntax.mkApp (mkIdent l) as.toArray
  let is ← (List.range n).mapM fun i => rnm (100 + i)
  let i ← if n == 0 then `(tactic| skip) else do
    let is := is.toArray
    `(tactic| intro $[$is:ident]*)
  let q ← pst c (is.getLastD (mkIdent `x)) (is.dropLast.getLastD (mkIdent `x))
  let g ← match s with
    | some t => `(tactic| (with_reducible show wpAny _ _ $t _ _ _))
    | none => `(tactic| skip)
  let ts := ts.toArray
  `(tactic| (k_here; $g; k_dflt (refine' $a; $[$ts];*; $w); $i; $q))
open Lean in
def rul (s : Option Term) (l : Name) (p : String) (n : Nat) (c : Char) : MacroM Syntax := rulx s l p n c `(tactic| omega)
open Lean in
def qh : Term := mkHole .missing
open Lean in
def qn (n : Nat) : Term := Syntax.mkNumLit (toString n)
open Lean in
def qs (s : String) : Term := Syntax.mkStrLit s
open Lean in
def qcall (k : Name) (h : Term) (p : String) : Option Term :=
  let as := p.toList.map fun c => if c == 'r' then Syntax.mkApp (mkIdent `PySem.Value.ref) #[qh] else if c == 's' then Syntax.mkApp (mkIdent `PySem.Value.str) #[qh, qh] else qh
  some (Syntax.mkApp (mkIdent `PySem.call) #[Syntax.mkApp (mkIdent k) #[h], as.foldr (fun a l => Syntax.mkApp (mkIdent `List.cons) #[a, l]) (mkIdent `List.nil)])
open Lean in
def qsub (k : Name) : Option Term :=
  some (Syntax.mkApp (mkIdent `PyProof.Rows.subscriptTail) #[qh, qh, Syntax.mkApp (mkIdent `PySem.Value.ref) #[qh], Syntax.mkApp (mkIdent k) #[qh, qh]])
open Lean in
def tmNe : MacroM Syntax := `(tactic| (refine neN ?_; (try dsimp only); first | with_reducible assumption | (refine Ne.symm ?_; with_reducible assumption) | (refine Nat.ne_of_lt ?_; with_reducible assumption) | (refine Nat.ne_of_gt ?_; with_reducible assumption)))
end Mine
local macro_rules | `(tactic| k_ne) => Mine.tmNe
namespace Mine
theorem resetBa1 : True := by
  k_with_none
  w_top off
  trivial
theorem fill (w : World) (h : Heap) (x : (hd.heap_1 w.params).In h) : (hd.heap_1 w.params).In h ∧ PySem.Challenge.rw_in0095_01.foot = PySem.Challenge.rw_in0095_01.foot := by
  k_fill
  exact ⟨x, rfl⟩

noncomputable abbrev prg : Program := PySem.Challenge.rw_in0095_01.row.prog
/-- what stands of the text's own objects and names -/
structure Gd (w : World) (mg mb : Str → Option Value) (h : Heap) : Prop where
  X : (hd.heap_1 w.params).In h
  T : TopRead topProg lg mg mb h
/-- nothing old is changed -/
noncomputable def Kp (h h' : Heap) : Prop := ∀ b o, h.get? b = some o → h'.get? b = some o
theorem Kp.refl (h : Heap) : Kp h h := fun _ _ e => e
theorem Kp.trans {a b c : Heap} (x : Kp a b) (y : Kp b c) : Kp a c := fun q o e => y q o (x q o e)

theorem call_any {prog : Program} {w : World} {A : Around} {s : Shared} {K : Frag} {p : Program} {loose : List Str} {mg mb : Str → Option Value} {R : Result → Shared → Prop}
    {name qual : Str} {params : Arguments} {body : List Stmt} {scope : Scope} {dV kV doc pm cdv ct oc : Value} {an od : Option Addr} {osl : Array (Option Value)} {f : Addr} {args : Args} {binds : List (Str × Value)}
    (X : K.In s.heap) (T : TopRead p loose mg mb s.heap)
    (ho : K.lookup f = some ⟨oc, od, .func (fnOf name qual params body scope dV kV doc pm an cdv ct), osl⟩) (hcd : codeIn K cdv qual = true) (hroom : A.depth < recursionLimit)
    (hbind : BindsTo s (fnOf name qual params body scope dV kV doc pm an cdv ct) args binds) (hloc : ∀ y ∈ binds, scope.names.lookup y.1 = some .local)
    (h : ∀ L' h₁, L' = s.heap.objs.size → Fr s.heap L' h₁ (fun y => binds.reverse.lookup y) → News s.heap L' h₁ [] →
      wpAny (model prog w) (A.deeper (envOf qual scope L' f cdv)) (execs body (envOf qual scope L' f cdv))
        (fun fl s' => R (.ok (.ret (match fl with | .ret v => v | _ => .none))) s')
        (fun e s' => wpAny (model prog w) (A.deeper (envOf qual scope L' f cdv)) (leaving (envOf qual scope L' f cdv) e) (fun _ s'' => R (.error e) s'') (fun e' s'' => R (.error e') s'') s')
        { s with heap := h₁, toks := s.toks + binds.length })
    (hco : scope.isCoroutine = false := by rfl) (hgen : scope.isGenerator = false := by rfl) (hk : scope.kind = .function := by rfl)
    (hcell : ∀ x ∈ scope.names, x.2 ≠ .cell := by decide) : codeAny (model prog w) A (.call (.ref f) args) R s :=
  codeAny_call_def (fd := fnOf name qual params body scope dV kV doc pm an cdv ct) (body := body) (binds := binds) hroom (X _ _ ho) rfl T.nolimit (codeRec_of X hcd) rfl hbind hcell hloc
    (fun h₁ hns hk₁ => h s.heap.objs.size h₁ rfl ⟨hns, hk₁, Nat.le_refl _⟩ News.nil) hco hgen hk

/-- a call's end that changes nothing old -/
noncomputable def RetR (s : Shared) (P : Value → Heap → Prop) (r : Result) (s' : Shared) : Prop :=
  ∃ v h' tk, r = .ok (.ret v) ∧ s' = { s with heap := h', toks := tk } ∧ Kp s.heap h' ∧ P v h'
theorem RetR.mk {s : Shared} {P : Value → Heap → Prop} {v : Value} {h' : Heap} {tk : Nat} (k : Kp s.heap h') (p : P v h') : RetR s P (.ok (.ret v)) { s with heap := h', toks := tk } := ⟨v, h', tk, rfl, rfl, k, p⟩

noncomputable def goodEl (x : Str) : Bool := decide (0 < x.cps.size) && decide (x.cps.size ≤ 3) && x.cps.toList.all (· != 47) && x.cps.toList.all fun c => decide (c < 1114112)
theorem good9 : ∀ i, i < 9 → goodEl ([Str.ofString "a", Str.ofString "b", Str.ofString ".", Str.ofString "..", Str.ofString "ab", Str.ofString "a b", Str.ofString "\n", Str.ofString "\\", Str.ofString " "].getD i Str.empty) = true := by decide +kernel
theorem good3a : ∀ j, j < 3 → ([Str.ofString "", Str.ofString "a", Str.ofString "."].getD j Str.empty).cps.size ≤ 1 ∧ (([Str.ofString "", Str.ofString "a", Str.ofString "."].getD j Str.empty).cps.toList.all (· != 47) = true ∧ ([Str.ofString "", Str.ofString "a", Str.ofString "."].getD j Str.empty).cps.toList.all (fun c => decide (c < 1114112)) = true) := by decide +kernel
theorem good3 {c : Nat} {x : Str} (hc : c ≠ 47) (hc2 : c < 1114112) (hx : x.cps.size ≤ 1 ∧ (x.cps.toList.all (· != 47) = true ∧ x.cps.toList.all (fun c => decide (c < 1114112)) = true)) : goodEl ((⟨#[c]⟩ : Str) ++ x) = true := by
  obtain ⟨h1, h2, h3⟩ := hx
  have e : ((⟨#[c]⟩ : Str) ++ x).cps = #[c] ++ x.cps := rfl
  simp only [goodEl, e, Array.size_append, Array.toList_append, List.all_append, Bool.and_eq_true, decide_eq_true_eq]
  refine ⟨⟨⟨by simp; omega, by simp; omega⟩, by simpa using hc, h2⟩, by simpa using hc2, h3⟩

section
variable {w : World} {s : Shared} {mg mb : Str → Option Value} {d u : Nat} {gd : Option (List Code)} {fr : Option (List Env)}
theorem el_any (G : Gd w mg mb s.heap) (hroom : d < 600) {n : Int} {t : Tok} :
   codeAny (model prg w) ⟨none, d, fr, gd, u⟩ (.call (.ref 162) ⟨[.int n t], []⟩) (RetR s fun v _ => ∃ x tk, v = .str x tk ∧ goodEl x = true) s := by
  obtain ⟨X, T⟩ := G
  refine' call_any X T ?k6 ?k7 (by unfold recursionLimit; show d < 1000; omega) ?k9 ?kB ?_ ?c2 ?c3 ?c4 ?c5; (case k6 => k_is); (case k7 => k_is); (case k9 => exact BindsTo.of_eq rfl); (case c5 => decide); (case kB => exact locs rfl); (case c2 => exact rfl); (case c3 => exact rfl); (case c4 => exact rfl)
  have e1 := (fdiv_fmod_facts n 12).2.2.1 (by decide)
  have e2 := (fdiv_fmod_facts (n.fdiv 12) 1114112).2.2.1 (by decide)
  intro L' h' hL F' N'; (try dsimp only)
  k_with "table" => skip
  k_fold
  k_steps
  all_goals with_reducible rename Fr _ _ _ _ => kF
  · exact RetR.mk kF.keep ⟨_, _, rfl, good9 _ (by omega)⟩
  all_goals exact RetR.mk kF.keep ⟨_, _, rfl, good3 (by omega) (by omega) (good3a _ (by omega))⟩
end
end Mine
namespace Mine
theorem resetBb1 : True := by
  k_with_none
  w_top off
  trivial
section
variable {w : World} {s : Shared} {mg mb : Str → Option Value} {d u : Nat} {gd : Option (List Code)} {fr : Option (List Env)} {E : Value → Shared → Prop}
variable {h₀ : Heap} {L : Addr} {m : Str → Option Value} {news : List (Addr × Obj)}
theorem use_ret {A : Around} {P : Value → Heap → Prop} {f : Value} {args : List Value} {Q : Value → Shared → Prop} (c : codeAny (model prg w) A (.call f ⟨args, []⟩) (RetR s P) s)
    (F : Fr h₀ L s.heap m) (N : News h₀ L s.heap news) (h : ∀ v h' tk, P v h' → Kp s.heap h' → Fr h₀ L h' m → News h₀ L h' news → Q v { s with heap := h', toks := tk }) :
    wpAny (model prg w) A (call f args) Q E s := by
  refine wpAny_call (codeAny_mono c fun r s' hr => ?_)
  obtain ⟨v, h', tk, rfl, rfl, k, p⟩ := hr
  exact h v h' tk p k (F.keeps k) fun q hq => ⟨k _ _ (N q hq).1, (N q hq).2⟩

theorem kind_any (G : Gd w mg mb s.heap) (hroom : d < 600) {a : Value} {p : Str} {t : Tok} :
   codeAny (model prg w) ⟨none, d, fr, gd, u⟩ (.call (.ref 126) ⟨[a, .str p t], []⟩) (RetR s fun v _ => ∃ tk, v = .str (Str.ofString "") tk) s := by
  obtain ⟨X, T⟩ := G
  refine' call_any X T ?k6 ?k7 (by unfold recursionLimit; show d < 1000; omega) ?k9 ?kB ?_ ?c2 ?c3 ?c4 ?c5; (case k6 => k_is); (case k7 => k_is); (case k9 => exact BindsTo.of_eq rfl); (case c5 => decide); (case kB => exact locs rfl); (case c2 => exact rfl); (case c3 => exact rfl); (case c4 => exact rfl)
  intro L' h' hL F' N'; (try dsimp only)
  k_fold
  k_steps
  all_goals with_reducible rename Fr _ _ _ _ => kF
  all_goals exact RetR.mk kF.keep ⟨_, rfl⟩
theorem kind_use {Q : Value → Shared → Prop} (X : (hd.heap_1 w.params).In h₀) (T : TopRead topProg lg mg mb h₀)
    (F : Fr h₀ L s.heap m) (N : News h₀ L s.heap news) (hroom : d < 600) {a : Value} {p : Str} {t : Tok}
    (h : ∀ h' tk tk', Fr h₀ L h' m → News h₀ L h' news → Q (.str (Str.ofString "") tk) { s with heap := h', toks := tk' }) :
    wpAny (model prg w) ⟨none, d, fr, gd, u⟩ (call (.ref 126) [a, .str p t]) Q E s :=
  use_ret (kind_any ⟨X.keeps F.keep, T.keeps F.keep⟩ hroom) F N fun v h' tk p k F' N' => by obtain ⟨tk', rfl⟩ := p; exact h _ _ _ F' N'
end
local macro_rules | `(tactic| walk_at "call ref") => rul none `kind_use "AAAAP_!" 5 's'
section
variable {w : World} {s : Shared} {mg mb : Str → Option Value} {d u : Nat} {gd : Option (List Code)} {fr : Option (List Env)} {E : Value → Shared → Prop}
variable {h₀ : Heap} {L : Addr} {m : Str → Option Value} {news : List (Addr × Obj)}
theorem fspath_any (G : Gd w mg mb s.heap) (hroom : d < 590) {a : Value} {p : Str} {t : Tok} :
   codeAny (model prg w) ⟨none, d, fr, gd, u⟩ (.call (.ref 133) ⟨[a, .str p t], []⟩) (RetR s fun v _ => v = .str p t) s := by
  obtain ⟨X, T⟩ := G
  refine' call_any X T ?k6 ?k7 (by unfold recursionLimit; show d < 1000; omega) ?k9 ?kB ?_ ?c2 ?c3 ?c4 ?c5; (case k6 => k_is); (case k7 => k_is); (case k9 => exact BindsTo.of_eq rfl); (case c5 => decide); (case kB => exact locs rfl); (case c2 => exact rfl); (case c3 => exact rfl); (case c4 => exact rfl)
  intro L' h' hL F' N'; (try dsimp only)
  k_fold
  k_steps
  all_goals with_reducible rename Fr _ _ _ _ => kF
  all_goals exact RetR.mk kF.keep rfl
theorem fspath_use {Q : Value → Shared → Prop} (X : (hd.heap_1 w.params).In h₀) (T : TopRead topProg lg mg mb h₀)
    (F : Fr h₀ L s.heap m) (N : News h₀ L s.heap news) (hroom : d < 590) {a : Value} {p : Str} {t : Tok}
    (h : ∀ h' tk', Fr h₀ L h' m → News h₀ L h' news → Q (.str p t) { s with heap := h', toks := tk' }) :
    wpAny (model prg w) ⟨none, d, fr, gd, u⟩ (call (.ref 133) [a, .str p t]) Q E s :=
  use_ret (fspath_any ⟨X.keeps F.keep, T.keeps F.keep⟩ hroom) F N fun v h' tk p k F' N' => by subst p; exact h _ _ F' N'
end
local macro_rules | `(tactic| walk_at "call ref") => rul none `fspath_use "AAAAP_!" 4 's'
noncomputable def cutOf (p : Str) : Str := Txt.slice p none (some (Txt.rfind p (Str.ofString "/") + 1))
noncomputable def headOf (p : Str) : Str := if ((cutOf p).length : Int) = 0 then cutOf p else if (cutOf p != Txt.mul (Str.ofString "/") ((cutOf p).length : Int)) = true then Txt.rstripChars (cutOf p) (Str.ofString "/") else cutOf p
section
variable {w : World} {s : Shared} {mg mb : Str → Option Value} {d u : Nat} {gd : Option (List Code)} {fr : Option (List Env)} {E : Value → Shared → Prop}
variable {h₀ : Heap} {L : Addr} {m : Str → Option Value} {news : List (Addr × Obj)}
noncomputable def SplitV (h : Heap) (p : Str) (v : Value) (h' : Heap) : Prop := ∃ c x y t1 t2, v = .ref c ∧ h'.get? c = some { cls := .type "tuple", data := .seq #[.str x t1, .str y t2] } ∧ h.get? c = none ∧ x = headOf p ∧ x.length ≤ p.length
theorem split_any (G : Gd w mg mb s.heap) (hroom : d < 580) {p : Str} {t : Tok} (hp : p.length ≤ 100000) :
   codeAny (model prg w) ⟨none, d, fr, gd, u⟩ (.call (.ref 140) ⟨[.str p t], []⟩) (RetR s (SplitV s.heap p)) s := by
  obtain ⟨X, T⟩ := G
  refine' call_any X T ?k6 ?k7 (by unfold recursionLimit; show d < 1000; omega) ?k9 ?kB ?_ ?c2 ?c3 ?c4 ?c5; (case k6 => k_is); (case k7 => k_is); (case k9 => exact BindsTo.of_eq rfl); (case c5 => decide); (case kB => exact locs rfl); (case c2 => exact rfl); (case c3 => exact rfl); (case c4 => exact rfl)
  intro L' h' hL F' N'; (try dsimp only)
  k_fold
  k_steps
  all_goals with_reducible rename Fr _ _ _ _ => kF
  all_goals with_reducible rename News _ _ _ _ => kN
  all_goals refine RetR.mk kF.keep ⟨_, _, _, _, _, rfl, (kN _ (.head _)).1, ?_, ?_, ?_⟩
  all_goals first
    | (show _ = headOf p; unfold headOf cutOf; rw [if_pos (by with_reducible assumption)])
    | (show _ = headOf p; unfold headOf cutOf; rw [if_neg (by with_reducible assumption), if_pos (by with_reducible assumption)])
    | (show _ = headOf p; unfold headOf cutOf; rw [if_neg (by with_reducible assumption), if_neg (Bool.eq_false_iff.mp (by with_reducible assumption))])
    | exact (kN _ (.head _)).2.2
    | (show _ ≤ _; omega)
end
end Mine
namespace Mine
noncomputable def Ag : Around := ⟨none, 400, none, none, 4000⟩
theorem to_Ag {M : Model} {A : Around} {α : Type} {t : Sem α} {Q : α → Shared → Prop} {E : Value → Shared → Prop} {s : Shared} (hh : A.handled = none) (hd : A.depth ≤ 400) (hu : A.units ≤ 4000) (h : wpAny M Ag t Q E s) : wpAny M A t Q E s :=
  fun Γ p hΓ => h Γ p ⟨hΓ.1.trans hh, Nat.le_trans hΓ.2.1 hd, (fun l hl => by cases hl), (fun g hg => by cases hg), Nat.le_trans hΓ.2.2.2.2 hu⟩

section
variable {prog : Program} {w : World} {A : Around} {E : Value → Shared → Prop} {s : Shared}
/-- one __next__ of a generator that ends by returning None -/
theorem gen_special {a : Addr} {g n : Nat} {gs : GenState} {P : Nat → Shared → Shared → Prop} {Y : Protocol} {Q : Option Value → Shared → Prop} (hh : A.handled = none)
    (hl : s.heap.NoLimit) (hroom : A.depth < recursionLimit) (hg : s.heap.IsGen a g) (hgs : s.gens[g]? = some gs)
    (hgo : gs.Goes (model prog w) A.in1 (fun n s₀ r s₁ => r = .ok (.ret .none) ∧ P n s₀ s₁) Y n (.send .none) (s.setGen g .running))
    (hY : ∀ v s₁ gs', gs'.bare = true → Y (n - 1) (s.setGen g .running) v s₁ (fun r' s'' => match n with
        | 0 => False
        | m + 1 => gs'.Goes (model prog w) A.in1 (fun n s₀ r s₁ => r = .ok (.ret .none) ∧ P n s₀ s₁) Y m r' s'') → Q (some v) (s₁.setGen g gs'))
    (hP : ∀ s₁ h' e, P n (s.setGen g .running) s₁ → Heap.NewExc s₁.heap h' e "StopIteration" → E (.ref e) { s₁.setGen g .finished with heap := h' }) :
    wpAny (model prog w) A (callSpecial? (.ref a) (Str.ofString "__next__")) Q E s := by
  refine wpAny_callSpecial?_slot (name := Str.ofString "__next__") hg.typeIs slot_gen_next
    (wpAny_call_entry slot_gen_next hg.typeIs entry_gen_next ?_ (args_gen_next _))
  show wpAny _ _ (Builtin.Generator.genWake (.ref a) (.send .none)) _ _ s
  unfold Builtin.Generator.genWake
  refine wpAny_bind (wpAny_holding (wpAny_genNumber hg (wpAny_bind (wpAny_genState hgs ?_))))
  cases gs with
  | running => exact hgo.elim
  | finished => exact hgo.elim
  | _ =>
    refine wpAny_bind (wpAny_roomToWake hl hroom ?_)
    show wpAny _ _ (.resume g (.send .none) [] _) _ _ s
    refine wpAny_resumeQ hgs hgo (fun x s₁ hx => ?_) (fun v s₁ gs' hb hv => ?_)
    · obtain ⟨rfl, hp⟩ := hx
      show wpAny _ _ (newExc (.type "StopIteration") [] >>= _) _ _ _
      refine wpAny_bind ?_
      simp only [newExc, newTuple]
      refine wpAny_bind (wpAny_newObj_type ?_ (by size_fits))
      refine wpAny_bind (m := firstArgMember _ _) (wpAny_of_eq (a := Value.none) (by first | rfl | (simp only [firstArgMember]; rfl)) ?_)
      refine wpAny_newObj_type ?_ (by size_fits)
      simp only [raiseNew]
      refine wpAny_bind (wpAny_bind (wpAny_handled ?_))
      rw [show A.in1.handled = none from hh]
      refine wpAny_throw ?_
      refine hP s₁ _ _ hp ⟨fun b o hb => Heap.get?_push_of_some _ (Heap.get?_push_of_some _ hb), ?_, _, _, Heap.get?_push_size _ rfl, rfl, rfl⟩
      exact Heap.get?_none_of_le (by rw [Heap.size_push]; exact Nat.le_succ _)
    · exact wpAny_pure ⟨v, rfl, hY v s₁ gs' hb hv⟩
end

noncomputable def slash : Str := Str.ofString "/"
/-- what the loop of _ancestry yields from q on -/
inductive Anc : Str → List Str → Prop
  | nil {q : Str} (h : (Txt.rstripChars q slash).length = 0) : Anc q []
  | cons {q : Str} {ys : List Str} (h : (Txt.rstripChars q slash).length ≠ 0) (t : Anc (headOf q) ys) : Anc q (q :: ys)
noncomputable def Kx (C : Addr) (h h' : Heap) : Prop := ∀ b o, b ≠ C → h.get? b = some o → h'.get? b = some o
theorem Kx.trans {C : Addr} {a b c : Heap} (x : Kx C a b) (y : Kx C b c) : Kx C a c := fun q o n e => y q o n (x q o n e)
noncomputable def Since (C : Addr) (s₀ s : Shared) : Prop := ∃ h' tk, s = { s₀ with heap := h', toks := tk } ∧ Kx C s₀.heap h'
/-- what must stand still between two turns -/
noncomputable def Still (h₀ : Heap) (C : Addr) (s s'' : Shared) : Prop := (∀ o, s.heap.get? C = some o → s''.heap.get? C = some o) ∧ ∀ b o, h₀.get? b = some o → s''.heap.get? b = some o
noncomputable def ancY (h₀ : Heap) (C : Addr) (ys : List Str) : Protocol := fun m s₀ v s kap =>
  (∃ y t, ys[ys.length - 1 - m]? = some y ∧ v = .str y t) ∧ Since C s₀ s ∧ (∃ o, s.heap.get? C = some o) ∧ ∀ s'', Still h₀ C s s'' → kap (.send .none) s''
noncomputable def ancR (C : Addr) : GenEnd := fun n s₀ r s₁ => r = .ok (.ret .none) ∧ (n = 0 ∧ Since C s₀ s₁ ∧ ∃ o, s₁.heap.get? C = some o)

section
variable {w : World} {env : Env} {h₀ : Heap} {C : Addr}
theorem seg_anc_loop {test e : Expr} {ypos pos : Pos} {st : Stmt} {fs : List Frame} {A' : Around} {ys : List Str} (hfs : splitAtGen fs = none) (hfg : fs.any Frame.guarded = false)
    (hA : Ag.in1.over (.whileLoop test [.Expr (.Yield (some e) ypos) pos, st] [] env) fs = A')
    (htest : ∀ q t m s E, q.length ≤ 1000 → Fr h₀ C s.heap m → m (Str.ofString "path") = some (.str q t) → wpAny (model prg w) A' (isTrue test env (eval test env))
      (fun b s' => b = decide ((Txt.rstripChars q slash).length ≠ 0) ∧ ∃ h' tk, s' = { s with heap := h', toks := tk } ∧ Fr h₀ C h' m ∧ Kx C s.heap h') E s)
    (hval : ∀ q t m s E, Fr h₀ C s.heap m → m (Str.ofString "path") = some (.str q t) → wpAny (model prg w) A' (eval e env) (fun v s' => v = .str q t ∧ s' = s) E s)
    (hstep : ∀ q t m s E, q.length ≤ 1000 → Fr h₀ C s.heap m → m (Str.ofString "path") = some (.str q t) → wpAny (model prg w) A' (exec st env)
      (fun f s' => f = .next ∧ ∃ h' tk m' t', s' = { s with heap := h', toks := tk } ∧ Fr h₀ C h' m' ∧ m' (Str.ofString "path") = some (.str (headOf q) t') ∧ (headOf q).length ≤ 1000 ∧ Kx C s.heap h') E s)
    (hend : ∀ s₀ s, Since C s₀ s → (∃ o, s.heap.get? C = some o) → Seg (model prg w) Ag.in1 (ancR C) (ancY h₀ C ys) 0 s₀ (.whileLoop test [.Expr (.Yield (some e) ypos) pos, st] [] env) (.pure (.done .next)) fs s)
    (hco : env.scope.isCoroutine = false) (hi : interactive env = false) :
    ∀ (rest : List Str) (q : Str) (t : Tok) (s₀ s : Shared) (m : Str → Option Value), Anc q rest → q.length ≤ 1000 → (∃ pre, ys = pre ++ rest) → Since C s₀ s → Fr h₀ C s.heap m → m (Str.ofString "path") = some (.str q t) →
      Seg (model prg w) Ag.in1 (ancR C) (ancY h₀ C ys) rest.length s₀ (.whileLoop test [.Expr (.Yield (some e) ypos) pos, st] [] env) ((model prg w).den (.whileLoop test [.Expr (.Yield (some e) ypos) pos, st] [] env)) fs s := by
  intro rest
  induction rest with
  | nil =>
    intro q t s₀ s m ha hq _ hs F hm
    have h0 : (Txt.rstripChars q slash).length = 0 := by cases ha; assumption
    refine seg_whileLoop ?_
    rw [hA]
    refine wpAny_mono (htest q t m s (fun _ _ => False) hq F hm) (fun b s' hb => ?_) fun _ _ x => x.elim
    obtain ⟨rfl, h', tk, rfl, F', k⟩ := hb
    rw [if_neg (by simp [h0])]
    refine seg_execs_nil ?_
    obtain ⟨h1, tk1, rfl, k1⟩ := hs
    exact hend _ _ ⟨h', tk, rfl, k1.trans k⟩ (let ⟨o, _, _, e, _⟩ := F'.ns; ⟨o, e⟩)
  | cons y rest ih =>
    intro q t s₀ s m ha hq hpre hs F hm
    obtain ⟨rfl, h0, hat⟩ : y = q ∧ (Txt.rstripChars q slash).length ≠ 0 ∧ Anc (headOf q) rest := by cases ha with | cons a b => exact ⟨rfl, a, b⟩
    refine seg_whileLoop ?_
    rw [hA]
    refine wpAny_mono (htest y t m s (fun _ _ => False) hq F hm) (fun b s' hb => ?_) fun _ _ x => x.elim
    obtain ⟨rfl, h', tk, rfl, F', k⟩ := hb
    rw [if_pos (by simp [h0])]
    refine seg_execs_cons ?_
    refine seg_Expr_Yield hfs rfl hfg ?_ hco hi
    rw [hA]
    refine wpAny_mono (hval y t m _ (fun _ _ => False) F' hm) (fun v s' hv => ?_) fun _ _ x => x.elim
    obtain ⟨rfl, rfl⟩ := hv
    intro kap hkap
    obtain ⟨pre, hpre⟩ := hpre
    obtain ⟨h1, tk1, rfl, k1⟩ := hs
    refine ⟨⟨y, t, ?_, rfl⟩, ⟨h', tk, rfl, k1.trans k⟩, (let ⟨o, _, _, e, _⟩ := F'.ns; ⟨o, e⟩), fun s'' hst => hkap .none s'' ?_⟩
    · rw [hpre]
      have e1 : (pre ++ y :: rest).length - 1 - rest.length = pre.length := by rw [List.length_append, List.length_cons]; omega
      rw [e1, List.getElem?_append_right (Nat.le_refl _)]
      simp
    · show Seg _ _ _ _ rest.length s'' _ (Sem.wrap _ _ _ _ (execs [st] env)) fs s''
      have F'' : Fr h₀ C s''.heap m := by
        obtain ⟨oC, es, ep, e1, e2⟩ := F'.ns
        exact ⟨⟨oC, es, ep, hst.1 _ e1, e2⟩, hst.2, F'.above⟩
      refine seg_execs_cons (seg_wrap ?_)
      rw [hA]
      refine wpAny_mono (hstep y t m s'' (fun _ _ => False) hq F'' hm) (fun f s₃ hf => ?_) fun _ _ x => x.elim
      obtain ⟨rfl, h3, tk3, m3, t3, rfl, F3, hm3, hq3, k3⟩ := hf
      refine seg_execs_nil (seg_again rfl ?_)
      exact ih (headOf y) t3 _ _ m3 hat hq3 ⟨pre ++ [y], by rw [hpre]; simp⟩ ⟨h3, tk3, rfl, k3⟩ F3 hm3
end
end Mine
namespace Mine
theorem resetBd1 : True := by
  k_with_none
  w_top off
  trivial
noncomputable def restOf (h₀ : Heap) (C : Addr) (h : Heap) : List (Addr × Obj) := (List.range h.objs.size).filterMap fun b => if b = C ∨ (h₀.get? b).isSome = true then none else (h.get? b).map fun o => (b, o)
theorem rest_ex {h₀ h : Heap} {C : Addr} (k : ∀ b o, h₀.get? b = some o → h.get? b = some o) : ∃ news, News h₀ C h news ∧ ∀ h', (∀ b o, h₀.get? b = some o → h'.get? b = some o) → (∀ p ∈ news, h'.get? p.1 = some p.2) → Kx C h h' := by
  refine ⟨restOf h₀ C h, ?_, ?_⟩
  · intro p hp
    obtain ⟨b, _, hb⟩ := List.mem_filterMap.mp hp
    split at hb
    · cases hb
    · rename_i hn
      obtain ⟨o, ho, rfl⟩ := Option.map_eq_some_iff.mp hb
      refine ⟨ho, fun q => hn (.inl q), ?_⟩
      cases q : h₀.get? b with
      | none => rfl
      | some o' => exact absurd (Or.inr (by rw [q]; rfl)) hn
  · intro h' k0 kn b o hb ho
    cases q : h₀.get? b with
    | some o' =>
      have := k b o' q
      rw [ho] at this; cases this
      exact k0 b o q
    | none =>
      refine kn (b, o) (List.mem_filterMap.mpr ⟨b, List.mem_range.mpr (Heap.lt_size ho), ?_⟩)
      rw [if_neg (by intro z; rcases z with z | z; exact hb z; rw [q] at z; cases z), ho]; rfl
section
variable {w : World} {s : Shared} {mg mb : Str → Option Value} {d u : Nat} {gd : Option (List Code)} {fr : Option (List Env)} {E : Value → Shared → Prop}
variable {h₀ : Heap} {L : Addr} {m : Str → Option Value} {news : List (Addr × Obj)}
theorem split_use {Q : Value → Shared → Prop} (X : (hd.heap_1 w.params).In h₀) (T : TopRead topProg lg mg mb h₀)
    (F : Fr h₀ L s.heap m) (N : News h₀ L s.heap news) (hroom : d < 580) {p : Str} {t : Tok} (hp : p.length ≤ 100000)
    (h : ∀ h' tk' c y t1 t2, (headOf p).length ≤ p.length → Fr h₀ L h' m → News h₀ L h' ((c, { cls := .type "tuple", data := .seq #[.str (headOf p) t1, .str y t2] }) :: news) → Q (.ref c) { s with heap := h', toks := tk' }) :
    wpAny (model prg w) ⟨none, d, fr, gd, u⟩ (call (.ref 140) [.str p t]) Q E s :=
  use_ret (split_any ⟨X.keeps F.keep, T.keeps F.keep⟩ hroom hp) F N fun v h' tk q k F' N' => by
    obtain ⟨c, x, y, t1, t2, rfl, hc, hn, rfl, hl⟩ := q
    refine h _ _ c y t1 t2 hl F' fun p hp => ?_
    rcases List.mem_cons.mp hp with rfl | hp
    · refine ⟨hc, fun z => ?_, ?_⟩
      · obtain ⟨o, _, _, ho, _⟩ := F.ns
        rw [← z, hn] at ho; cases ho
      · cases q : h₀.get? c with
        | none => rfl
        | some o => rw [F.keep _ _ q] at hn; cases hn
    · exact N' p hp
end
/-- a statement's end: the frame's names are told, all else stands -/
noncomputable def Mid (h₀ : Heap) (C : Addr) (s : Shared) (P : (Str → Option Value) → Prop) (f : Flow) (s' : Shared) : Prop :=
  f = .next ∧ ∃ h' tk m', s' = { s with heap := h', toks := tk } ∧ Fr h₀ C h' m' ∧ P m' ∧ Kx C s.heap h'
/-- a test's end -/
noncomputable def MidB (h₀ : Heap) (C : Addr) (s : Shared) (m : Str → Option Value) (B : Prop) (b : Bool) (s' : Shared) : Prop :=
  (b = true ↔ B) ∧ ∃ h' tk, s' = { s with heap := h', toks := tk } ∧ Fr h₀ C h' m ∧ Kx C s.heap h'
local macro_rules | `(tactic| walk_at "call ref") => rul none `split_use "AAAAPO_!" 9 's'
structure AncAt (w : World) (h₀ : Heap) (a g C : Addr) (ys : List Str) (j : Nat) (s : Shared) : Prop where
  gen : s.heap.IsGen a g
  base : Kp h₀ s.heap
  nl : h₀.NoLimit
  aC : a ≠ C
  a0 : h₀.get? a = none
  C0 : h₀.get? C = none
  hasC : ∃ oC, s.heap.get? C = some oC
  run : ∃ gs, s.gens[g]? = some gs ∧ gs.bare = true ∧ ∀ s'', Still h₀ C s s'' → gs.Goes (model prg w) Ag.in1 (ancR C) (ancY h₀ C ys) (ys.length - j) (.send .none) s''
noncomputable def MadeGen (w : World) (h₀ : Heap) (ys : List Str) (s : Shared) (r : Result) (s' : Shared) : Prop :=
  ∃ a C h' tk gs, r = .ok (.ret (.ref a)) ∧ s' = { s with heap := h', toks := tk, gens := s.gens.push gs } ∧ gs.bare = true ∧ Kp s.heap h' ∧ s.heap.get? a = none ∧ s.heap.get? C = none ∧ a ≠ C ∧ AncAt w h₀ a s.gens.size C ys 0 s'
section
variable {w : World} {s : Shared} {mg mb : Str → Option Value} {d u : Nat} {gd : Option (List Code)} {fr : Option (List Env)} {h₀ : Heap}
theorem anc_make (G : Gd w mg mb s.heap) (G₀ : Gd w mg mb h₀) (k₀ : Kp h₀ s.heap) (hs₀ : h₀.objs.size ≤ s.heap.objs.size) (hroom : d < 580) {p : Str} {t : Tok} {ys : List Str} (hp : p.length ≤ 1000) (hq : (Txt.rstripChars p slash).length ≤ 1000) (ha : Anc (Txt.rstripChars p slash) ys) :
    codeAny (model prg w) ⟨none, d, fr, gd, u⟩ (.call (.ref 147) ⟨[.str p t], []⟩) (MadeGen w h₀ ys s) s := by
  have X := G.X
  refine codeAny_call_generator (by unfold recursionLimit; show d < 1000; omega) (X 147 _ (by k_is)) rfl rfl rfl rfl (codeRec_of X (by k_is)) ?_
  refine (BindsTo.of_eq rfl : BindsTo s _ ⟨[.str p t], []⟩ [(Str.ofString "path", .str p t)]) _ _ _ _ ?_
  refine wpAny_newFunctionEnv (by decide) (locs rfl) (fun h₁ hns hsb => ⟨G.T.nolimit.fresh _ hsb, ?_⟩) rfl
  have hsz : h₁.objs.size = s.heap.objs.size + 1 := by rw [hsb.1, Heap.size_push]
  have hle : s.heap.objs.size ≤ h₁.objs.size := by omega
  have hlt : s.heap.objs.size < h₁.objs.size := by omega
  have k1 : Kp s.heap h₁ := fun b o e => hsb.extBut b o (Nat.ne_of_lt (Heap.lt_size e)) (Heap.get?_push_of_some _ e)
  refine ⟨h₁.objs.size, s.heap.objs.size, _, _, _, rfl, rfl, rfl, fun b o e => Heap.get?_push_of_some _ (k1 b o e), Heap.get?_none_of_le hle, Heap.get?_none_of_le (Nat.le_refl _), Nat.ne_of_gt hlt, ?_⟩
  refine ⟨⟨_, _, _, Heap.get?_push_size _ rfl, rfl, rfl, rfl⟩, fun b o e => Heap.get?_push_of_some _ (k1 b o (k₀ b o e)), G₀.T.nolimit, Nat.ne_of_gt hlt, Heap.get?_none_of_le (Nat.le_trans hs₀ hle), Heap.get?_none_of_le hs₀, (let ⟨oC, _, _, e1, _⟩ := hns; ⟨oC, Heap.get?_push_of_some _ e1⟩), _, Array.getElem?_push_size .., rfl, fun s'' hst => ⟨rfl, ?_⟩⟩
  have F : Fr h₀ s.heap.objs.size s''.heap (fun x => [(Str.ofString "path", Value.str p t)].reverse.lookup x) := by
    obtain ⟨oC, es, ep, e1, e2⟩ := hns
    refine ⟨⟨oC, es, ep, hst.1 _ (Heap.get?_push_of_some _ e1), e2⟩, hst.2, hs₀⟩
  obtain ⟨X₀, T₀⟩ := G₀
  rw [Nat.sub_zero]
  refine seg_func (seg_execs_cons (seg_wrap ?_))
  obtain ⟨news, N, hn⟩ := rest_ex (C := s.heap.objs.size) F.keep
  refine wpAny_mono (Q := Mid h₀ s.heap.objs.size s'' (fun m' => ∃ t', m' = fun y => if y = Str.ofString "path" then some (.str (Txt.rstripChars p slash) t') else [(Str.ofString "path", Value.str p t)].reverse.lookup y)) (E := fun _ _ => False) ?_ (fun f s' hf => ?_) fun _ _ x => x.elim
  · show wpAny (model prg w) (Around.mk none 401 none none 4004) _ _ _ _
    generalize hS : s.heap.objs.size = C at F N hn ⊢
    k_fold
    k_steps
    with_reducible rename Fr _ _ _ _ => kF
    with_reducible rename News _ _ _ _ => kN
    exact ⟨rfl, _, _, _, rfl, kF, ⟨_, rfl⟩, hn _ kF.keep fun q hq => (kN q hq).1⟩
  obtain ⟨rfl, h', tk, m', rfl, F', ⟨t', rfl⟩, k'⟩ := hf
  refine seg_execs_cons (seg_While fun pp => ?_)
  refine seg_anc_loop (A' := Around.mk none 401 none none 4004) rfl rfl rfl ?_ ?_ ?_ ?_ rfl rfl ys (Txt.rstripChars p slash) t' _ _ _ ha hq ⟨[], rfl⟩ ⟨h', tk, rfl, k'⟩ F' rfl
  · clear F' k' F N hn hst ha hq
    intro q t m s' E hq F hm
    obtain ⟨news, N, hn⟩ := rest_ex (C := s.heap.objs.size) F.keep
    have hm' : m = fun y => if y = Str.ofString "path" then some (.str q t) else m y := by funext y; by_cases hy : y = Str.ofString "path"; subst hy; rw [if_pos rfl, hm]; rw [if_neg hy]
    refine wpAny_mono (Q := MidB h₀ s.heap.objs.size s' m ((Txt.rstripChars q slash).length ≠ 0)) (E := fun _ _ => False) ?_ (fun b s' hb => ?_) fun _ _ x => x.elim
    · generalize s.heap.objs.size = C at F N hn ⊢
      rw [hm'] at F ⊢
      k_fold
      k_steps
      with_reducible rename Fr _ _ _ _ => kF
      with_reducible rename News _ _ _ _ => kN
      exact ⟨by simp [slash], _, _, rfl, kF, hn _ kF.keep fun q hq => (kN q hq).1⟩
    · obtain ⟨h1, h', tk, rfl, F', k'⟩ := hb
      exact ⟨Bool.eq_iff_iff.mpr (h1.trans decide_eq_true_iff.symm), h', tk, rfl, F', k'⟩
  · intro q t m s' E F hm
    exact wpAny_Name (wpAny_loadName_local rfl rfl F.ns hm ⟨rfl, rfl⟩)
  · clear F' k' F N hn hst ha hq
    intro q t m s' E hq F hm
    obtain ⟨news, N, hn⟩ := rest_ex (C := s.heap.objs.size) F.keep
    have hm' : m = fun y => if y = Str.ofString "path" then some (.str q t) else m y := by funext y; by_cases hy : y = Str.ofString "path"; subst hy; rw [if_pos rfl, hm]; rw [if_neg hy]
    refine wpAny_mono (Q := Mid h₀ s.heap.objs.size s' fun m' => ∃ t', m' (Str.ofString "path") = some (.str (headOf q) t') ∧ (headOf q).length ≤ 1000) (E := fun _ _ => False) ?_ (fun f s' hb => ?_) fun _ _ x => x.elim
    · generalize s.heap.objs.size = C at F N hn ⊢
      rw [hm'] at F
      k_fold
      k_steps
      with_reducible rename Fr _ _ _ _ => kF
      with_reducible rename News _ _ _ _ => kN
      refine ⟨rfl, _, _, _, rfl, kF, ⟨_, rfl, by omega⟩, hn _ kF.keep fun q hq => (kN q (by repeat (first | exact hq | apply List.mem_cons_of_mem))).1⟩
    · obtain ⟨rfl, h', tk, m', rfl, F', ⟨t', hm', hl⟩, k'⟩ := hb
      exact ⟨rfl, h', tk, m', t', rfl, F', hm', hl, k'⟩
  · intro s₀ s₁ hs hoC
    refine seg_leaf (.ok .next) ?_
    show Seg _ _ _ _ 0 s₀ _ (leafOf (.ok (.ret .none))) [] s₁
    exact seg_end _ ⟨rfl, rfl, hs, hoC⟩
end
end Mine
namespace Mine
theorem ancLenA {l j m : Nat} (h : l - j = m + 1) : l - 1 - (m + 1 - 1) = j := by omega
theorem ancLenB {l j m : Nat} (h : l - j = m + 1) : l - (j + 1) = m := by omega
section
variable {w : World} {A : Around} {E : Value → Shared → Prop} {s : Shared} {h₀ : Heap} {a g C : Addr} {ys : List Str} {j : Nat}
theorem AncAt.next (hs : AncAt w h₀ a g C ys j s) (hj : j ≤ ys.length) {Q : Option Value → Shared → Prop} (hh : A.handled = none) (hd : A.depth ≤ 400) (hu : A.units ≤ 4000)
    (hQ : ∀ v s', (∃ y t, ys[j]? = some y ∧ v = .str y t) → AncAt w h₀ a g C ys (j + 1) s' → Moved [C] (GenOnlyQ g) s s' → Q (some v) s')
    (hE : ∀ e s₁ h', j = ys.length → Moved [C] (GenOnlyQ g) s s₁ → (∃ o, s₁.heap.get? C = some o) → Kp h₀ s₁.heap → Heap.NewExc s₁.heap h' e "StopIteration" → E (.ref e) { s₁ with heap := h' }) :
    wpAny (model prg w) A (callSpecial? (.ref a) (Str.ofString "__next__")) Q E s := by
  obtain ⟨hg, hb, hl, haC, ha0, hC0, hhC, gs, hgs, hbr, hgo⟩ := hs
  refine to_Ag hh hd hu ?_
  refine wpAny_with_toks (Nat.le_refl s.toks) ?_
  generalize hn : ys.length - j = n at hgo
  refine gen_special (P := fun n s₀ s₁ => n = 0 ∧ Since C s₀ s₁ ∧ ∃ o, s₁.heap.get? C = some o) (n := n) rfl (hl.keeps hb) (by decide) hg hgs (hgo _ ⟨fun _ e => e, hb⟩) (fun v s₁ gs' hb' hv => ?_) (fun s₁ h' e hp hne => ?_)
  · obtain ⟨⟨y, t, hy, rfl⟩, ⟨h₁, tk₁, rfl, hk₁⟩, hCC, hkap⟩ := hv
    have hb₁ : Kp h₀ h₁ := fun b o e => hk₁ b o (fun z => by rw [z, hC0] at e; cases e) (hb b o e)
    cases n with
    | zero => exact (hkap _ ⟨fun _ e => e, hb₁⟩).elim
    | succ m =>
      intro htk
      have e1 : ys.length - 1 - (m + 1 - 1) = j := ancLenA hn
      rw [e1] at hy
      refine hQ _ _ ⟨y, t, hy, rfl⟩ ⟨?_, hb₁, hl, haC, ha0, hC0, ?_, gs', setGen_self (gs := .running) (setGen_self hgs), hb', fun s'' hst => ?_⟩
        ⟨fun b o hb e => hk₁ b o (fun z => hb (z ▸ List.mem_singleton.mpr rfl)) e, GenOnlyQ.of ((GenOnly.setGen s g .running).trans (GenOnly.setGen _ g gs')) (setGen_self (gs := .running) (setGen_self hgs)) hb', rfl, rfl, htk⟩
      · obtain ⟨o, nm, qn, ho, r⟩ := hg
        exact ⟨o, nm, qn, hk₁ a o haC ho, r⟩
      · exact hCC
      · have e2 : ys.length - (j + 1) = m := ancLenB hn
        rw [e2]
        exact hkap s'' hst
  · obtain ⟨rfl, ⟨h₁, tk₁, rfl, hk₁⟩, hoC⟩ := hp
    intro htk
    refine hE e (Shared.setGen _ g .finished) h' (by omega) ⟨fun b o hb e => hk₁ b o (fun z => hb (z ▸ List.mem_singleton.mpr rfl)) e, GenOnlyQ.of ((GenOnly.setGen s g .running).trans (GenOnly.setGen _ g .finished)) (setGen_self (gs := .running) (setGen_self hgs)) rfl, rfl, rfl, htk⟩ hoC
      (fun b o e => hk₁ b o (fun z => by rw [z, hC0] at e; cases e) (hb b o e)) hne
theorem AncAt.frame (hs : AncAt w h₀ a g C ys j s) {h' : Heap} {tk : Nat} (ka : ∀ o, s.heap.get? a = some o → h'.get? a = some o) (kC : ∀ o, s.heap.get? C = some o → h'.get? C = some o) (k0 : Kp h₀ h') : AncAt w h₀ a g C ys j { s with heap := h', toks := tk } := by
  obtain ⟨⟨o, nm, qn, ho, r⟩, hb, hl, haC, ha0, hC0, hhC, gs, hgs, hbr, hgo⟩ := hs
  exact ⟨⟨o, nm, qn, ka o ho, r⟩, k0, hl, haC, ha0, hC0, hhC.imp fun o e => kC o e, gs, hgs, hbr, fun s'' hst => hgo s'' ⟨fun o e => hst.1 o (kC o e), hst.2⟩⟩
/-- pyNext by __next__ -/
theorem pyNext_by {it : Value} {Q : Option Value → Shared → Prop} (h : wpAny (model prg w) A (callSpecial? it (Str.ofString "__next__")) (fun r s' => ∃ v, r = some v ∧ Q (some v) s')
    (fun e s' => ∃ x, e = .ref x ∧ s'.TypeIs (.ref x) "StopIteration" ∧ Q none s') s) : wpAny (model prg w) A (pyNext it) Q E s := by
  unfold pyNext
  refine wpAny_bind (wpAny_attempt (wpAny_mono h (fun r s' hr => ?_) (fun e s' he => ?_)))
  · obtain ⟨v, rfl, hq⟩ := hr
    exact wpAny_pure hq
  · obtain ⟨x, rfl, hT, hq⟩ := he
    refine wpAny_bind (wpAny_isInstance hT isSubtype_stop ?_)
    exact wpAny_pure hq
theorem newExc_type {h h' : Heap} {e : Addr} {cls : String} {s : Shared} (x : Heap.NewExc h h' e cls) (hs : s.heap = h') : s.TypeIs (.ref e) cls := by
  obtain ⟨ob, t, h1, h2, _⟩ := x.there
  exact ⟨ob, hs ▸ h1, h2⟩
theorem AncAt.walks (hh : A.handled = none) (hd : A.depth ≤ 400) (hu : A.units ≤ 4000) (haC : a ≠ C) :
    WalksS (prg) w A a (a :: C :: List.range h₀.objs.size) [C] (GenOnlyQ g) ys.length (fun i v => ∃ y t, ys[i]? = some y ∧ v = .str y t) (fun j s => AncAt w h₀ a g C ys j s) where
  sub := fun b hb => by rw [List.mem_singleton.mp hb]; exact .tail _ (.head _)
  grefl := fun _ => .inl rfl
  gtrans := fun _ _ _ x y => x.trans y
  frame := fun j s h' tk st _ hk => st.frame (fun o => hk a (.head _) o) (fun o => hk C (.tail _ (.head _)) o) fun b o e => hk b (.tail _ (.tail _ (List.mem_range.mpr (Heap.lt_size e)))) o (st.base b o e)
  item := fun j s Q E hj st hQ => pyNext_by (st.next (Nat.le_of_lt hj) hh hd hu (fun v s' hv st' hm => ⟨v, rfl, hQ v s' hv st' hm⟩) fun e s₁ h' hj' _ _ _ _ => absurd hj' (Nat.ne_of_lt hj))
  done := fun s Q E st hQ => pyNext_by (st.next (Nat.le_refl _) hh hd hu (fun v s' hv _ _ => by obtain ⟨y, t, hy, _⟩ := hv; rw [List.getElem?_eq_none (Nat.le_refl _)] at hy; cases hy)
    fun e s₁ h' _ hm _ _ hne => ⟨e, rfl, newExc_type hne rfl, hQ _ ⟨fun b o hb e => hne.keeps b o (hm.heap b o hb e), hm.gens, hm.drawn, hm.os, hm.toks⟩⟩)
  self := fun _ _ _ _ st hQ => wpAny_pyIter_gen st.gen hQ
end
end Mine
local macro_rules | `(tactic| walk_at "none") => `(tactic| skip)
namespace Mine
theorem resetBf1 : True := by
  k_with_none
  w_top off
  trivial
section
variable {w : World} {s : Shared} {mg mb : Str → Option Value} {d u : Nat} {gd : Option (List Code)} {fr : Option (List Env)} {E : Value → Shared → Prop}
variable {h₀ hB : Heap} {L : Addr} {m : Str → Option Value} {news : List (Addr × Obj)}
theorem news_more {h h' : Heap} {a : Addr} {o : Obj} (F : Fr h₀ L h m) (N : News h₀ L h news) (k : Kp h h') (hn : h.get? a = none) (ho : h'.get? a = some o) : News h₀ L h' ((a, o) :: news) := fun q hq => by
  rcases List.mem_cons.mp hq with rfl | hq
  · refine ⟨ho, fun z => ?_, ?_⟩
    · obtain ⟨x, _, _, hx, _⟩ := F.ns
      rw [← z, hn] at hx; cases hx
    · cases e : h₀.get? a with
      | none => rfl
      | some x => rw [F.keep _ _ e] at hn; cases hn
  · exact ⟨k _ _ (N q hq).1, (N q hq).2⟩
/-- a generator object -/
noncomputable def IsGenO (g : Nat) (o : Obj) : Prop := ∃ nm qn, o.cls = .type "generator" ∧ o.data = .fields #[.int g 0, nm, qn] ∧ o.slots = #[]
theorem iter_by {prog : Program} {A : Around} {x : Value} {Q : Value → Shared → Prop} (h : wpAny (model prog w) A.in1 (pyIter x) Q E s) : wpAny (model prog w) A (call (.builtin "iter") [x]) Q E s := by
  refine call_function_entry (by decide +kernel) (by decide +kernel) kdk_entry_iter (kdk_args_iter _) ?_
  unfold Builtin.«iter»
  refine wpAny_bind (m := someArgs "iter" 1 2 _) (wpAny_of_eq (a := [x]) (by first | rfl | kernel_rfl!) ?_)
  show wpAny _ _ (pyIter x >>= _) _ _ _
  exact wpAny_bind (wpAny_mono h (fun v s' hq => wpAny_pure ⟨_, rfl, hq⟩) fun _ _ e => e)
theorem iter_gen {prog : Program} {A : Around} {a g : Nat} {o : Obj} {Q : Value → Shared → Prop} (N : News h₀ L s.heap news) (hm : (a, o) ∈ news) (hg : IsGenO g o) (h : Q (.ref a) s) : wpAny (model prog w) A (call (.builtin "iter") [.ref a]) Q E s := by
  obtain ⟨nm, qn, h1, h2, h3⟩ := hg
  exact iter_by (wpAny_pyIter_gen ⟨o, nm, qn, (N _ hm).1, h1, h2, h3⟩ h)
theorem anc_use {Q : Value → Shared → Prop} {ys : List Str} (X : (hd.heap_1 w.params).In h₀) (T : TopRead topProg lg mg mb h₀)
    (F : Fr h₀ L s.heap m) (N : News h₀ L s.heap news) (G₀ : Gd w mg mb hB) (k₀ : Kp hB h₀) (hs₀ : hB.objs.size ≤ s.heap.objs.size) (hroom : d < 580) {p : Str} {t : Tok} (hp : p.length ≤ 1000) (hq : (Txt.rstripChars p slash).length ≤ 1000) (ha : Anc (Txt.rstripChars p slash) ys)
    (h : ∀ h' tk' a C gs o oC, gs.bare = true → IsGenO s.gens.size o → h'.get? a = some o → h'.get? C = some oC → Kp s.heap h' → Fr h₀ L h' m → News h₀ L h' ((a, o) :: (C, oC) :: news) → AncAt w hB a s.gens.size C ys 0 { s with heap := h', toks := tk', gens := s.gens.push gs } →
      Q (.ref a) { s with heap := h', toks := tk', gens := s.gens.push gs }) :
    wpAny (model prg w) ⟨none, d, fr, gd, u⟩ (call (.ref 147) [.str p t]) Q E s := by
  refine wpAny_call (codeAny_mono (anc_make ⟨X.keeps F.keep, T.keeps F.keep⟩ G₀ (k₀.trans F.keep) hs₀ hroom hp hq ha) fun r s' hr => ?_)
  obtain ⟨a, C, h', tk, gs, rfl, rfl, hb, k, ha0, hC0, haC, hA⟩ := hr
  obtain ⟨o, nm, qn, ho, hr⟩ := id hA.gen
  obtain ⟨oC, hoC⟩ := hA.hasC
  have N' := news_more F N k hC0 hoC
  refine h _ _ a C gs o oC hb ⟨nm, qn, hr⟩ ho hoC k (F.keeps k) (fun q hq => ?_) hA
  rcases List.mem_cons.mp hq with rfl | hq
  · exact news_more F N k ha0 ho _ (.head _)
  · exact N' q hq
end
theorem call_anyB {prog : Program} {w : World} {A : Around} {s : Shared} {K : Frag} {p : Program} {loose : List Str} {mg mb : Str → Option Value} {R : Result → Shared → Prop} {base : Heap} {outer : List Env}
    {name qual : Str} {params : Arguments} {body : List Stmt} {scope : Scope} {dV kV doc pm cdv ct oc : Value} {an od : Option Addr} {osl : Array (Option Value)} {f : Addr} {args : Args} {binds : List (Str × Value)}
    {mean : ExcName → Option Value} (X : K.In s.heap) (T : Top p loose mean mg mb s.heap) (B : Below A base outer s.heap)
    (ho : K.lookup f = some ⟨oc, od, .func (fnOf name qual params body scope dV kV doc pm an cdv ct), osl⟩) (hcd : codeIn K cdv qual = true) (hroom : A.depth < recursionLimit)
    (hbind : BindsTo s (fnOf name qual params body scope dV kV doc pm an cdv ct) args binds) (hloc : ∀ y ∈ binds, scope.names.lookup y.1 = some .local)
    (h : ∀ L' h₁ g, g = s.heap → L' = s.heap.objs.size → Fr g L' h₁ (fun y => binds.reverse.lookup y) → News g L' h₁ [] → Below A base outer g → K.In g → Top p loose mean mg mb g →
      wpAny (model prog w) (A.deeper (envOf qual scope L' f cdv)) (execs body (envOf qual scope L' f cdv))
        (fun fl s' => R (.ok (.ret (match fl with | .ret v => v | _ => .none))) s')
        (fun e s' => wpAny (model prog w) (A.deeper (envOf qual scope L' f cdv)) (leaving (envOf qual scope L' f cdv) e) (fun _ s'' => R (.error e) s'') (fun e' s'' => R (.error e') s'') s')
        { s with heap := h₁, toks := s.toks + binds.length })
    (hco : scope.isCoroutine = false := by rfl) (hgen : scope.isGenerator = false := by rfl) (hk : scope.kind = .function := by rfl)
    (hcell : ∀ x ∈ scope.names, x.2 ≠ .cell := by decide) : codeAny (model prog w) A (.call (.ref f) args) R s :=
  call_any X (topRead_of T) ho hcd hroom hbind hloc (fun L' h₁ hL F N => h L' h₁ _ rfl hL F N B X T) hco hgen hk hcell
local macro_rules | `(tactic| walk_at "call builtin:iter") => rul (qcall `PySem.Value.builtin (qs "iter") "r") `iter_gen "AMA_!" 0 'n'
open Lean in
def tm0 : MacroM Syntax := `(tactic| (with_unfolding_all (show _ < 1000); (try simp only [depth_under_make, depth_under_kw, depth_in1, depth_deeper]); (try dsimp only); omega))
local macro_rules | `(tactic| k_room) => tm0
section
variable {w : World} {s : Shared} {mg mb : Str → Option Value} {mean : ExcName → Option Value} {loose : List Str} {d u : Nat} {gd : Option (List Code)} {outer : List Env} {E : Value → Shared → Prop}
variable {base hB : Heap}
/-- an islice object: counted, the next place -/
noncomputable def IslObj (d : Addr) (it : Value) (cnt next : Int) (o : Obj) : Prop := ∃ t0 t2 t3 t4, o = { cls := .ref 68, dict := some d, slots := #[some (.int cnt t0), some it, some (.int next t2), some (.int 1 t3), some (.int (-1) t4)] }
noncomputable def MadePar (w : World) (hB : Heap) (ys : List Str) (s : Shared) (r : Result) (s' : Shared) : Prop :=
  ∃ x d a C h' tk gs o, r = .ok (.ret (.ref x)) ∧ s' = { s with heap := h', toks := tk, gens := s.gens.push gs } ∧ gs.bare = true ∧ Kp s.heap h' ∧ s.heap.get? x = none ∧ s.heap.get? d = none ∧ s.heap.get? a = none ∧ s.heap.get? C = none ∧
    h'.get? x = some o ∧ IslObj d (.ref a) 0 1 o ∧ h'.get? d = some (dictOf [] 0) ∧ AncAt w hB a s.gens.size C ys 0 s' ∧ @LT.lt Nat _ a d ∧ @LT.lt Nat _ C d ∧ @LT.lt Nat _ d x
theorem parents_any (X : (hd.heap_1 w.params).In s.heap) (T : Top topProg lg mean mg mb s.heap) (B : Below ⟨none, d, some outer, gd, u⟩ base outer s.heap) (G₀ : Gd w mg mb hB) (k₀ : Kp hB s.heap) (hs₀ : hB.objs.size ≤ s.heap.objs.size) (hroom : d < 500) {p : Str} {t : Tok} {ys : List Str} (hp : p.length ≤ 1000) (hq : (Txt.rstripChars p slash).length ≤ 1000) (ha : Anc (Txt.rstripChars p slash) ys) :
    codeAny (model prg w) ⟨none, d, some outer, gd, u⟩ (.call (.ref 119) ⟨[.str p t], []⟩) (MadePar w hB ys s) s := by
  refine' call_anyB X T B ?k6 ?k7 (by unfold recursionLimit; show d < 1000; omega) ?k9 ?kB ?_ ?c2 ?c3 ?c4 ?c5; (case k6 => k_is); (case k7 => k_is); (case k9 => exact BindsTo.of_eq rfl); (case c5 => decide); (case kB => exact locs rfl); (case c2 => exact rfl); (case c3 => exact rfl); (case c4 => exact rfl)
  intro L' h' g hg hL F' N' B' X' T'; (try dsimp only)
  k_fold
  k_steps
  have hs1 : hB.objs.size ≤ h'.objs.size := by have := F'.ns.lt; rw [hL] at this; exact Nat.le_of_lt (Nat.lt_of_le_of_lt hs₀ this)
  refine anc_use X' (topRead_of T') F' N' G₀ (by rw [hg]; exact k₀) hs1 (by show d + 1 < 580; omega) hp hq ha ?_
  intro h1 tk1 a C gs o oC hb hgo hoa hoC k F1 N1 hA
  clear F' N'
  unfold qk
  dsimp only
  k_fold
  k_steps
  with_reducible rename Fr _ L' _ _ => kF
  with_reducible rename News _ L' _ _ => kN
  subst hg
  have m1 : ∀ {α : Type} {a b c : α} {l : List α}, c ∈ a :: b :: c :: l := .tail _ (.tail _ (.head _))
  refine ⟨_, _, a, C, _, _, gs, _, rfl, rfl, hb, kF.keep, (kN _ (.tail _ (.head _))).2.2, (kN _ m1).2.2, (kN _ (.tail _ m1)).2.2, (kN _ (.tail _ (.tail _ m1))).2.2, (kN _ (.tail _ (.head _))).1, ⟨_, _, _, _, rfl⟩, (kN _ m1).1, ?_, by omega, by omega, by omega⟩
  refine hA.frame (fun o' e => ?_) (fun o' e => ?_) (k₀.trans kF.keep)
  · rw [show _ = some o from hoa] at e; cases e; exact (kN _ (.tail _ m1)).1
  · rw [show _ = some oC from hoC] at e; cases e; exact (kN _ (.tail _ (.tail _ m1))).1
end
end Mine
local macro_rules | `(tactic| k_room) => Mine.tm0
namespace Mine
theorem call_anyN {prog : Program} {w : World} {A : Around} {s : Shared} {K : Frag} {p : Program} {loose : List Str} {mg mb : Str → Option Value} {R : Result → Shared → Prop} {h₀ : Heap} {mean : ExcName → Option Value} {news : List (Addr × Obj)}
    {name qual : Str} {params : Arguments} {body : List Stmt} {scope : Scope} {dV kV doc pm cdv ct oc : Value} {an od : Option Addr} {osl : Array (Option Value)} {f : Addr} {args : Args} {binds : List (Str × Value)}
    (X : K.In h₀) (T : Top p loose mean mg mb h₀) (k₀ : Kp h₀ s.heap) (hs₀ : h₀.objs.size ≤ s.heap.objs.size) (N : ∀ q ∈ news, s.heap.get? q.1 = some q.2 ∧ h₀.get? q.1 = none)
    (ho : K.lookup f = some ⟨oc, od, .func (fnOf name qual params body scope dV kV doc pm an cdv ct), osl⟩) (hcd : codeIn K cdv qual = true) (hroom : A.depth < recursionLimit)
    (hbind : BindsTo s (fnOf name qual params body scope dV kV doc pm an cdv ct) args binds) (hloc : ∀ y ∈ binds, scope.names.lookup y.1 = some .local)
    (h : ∀ L' h₁, L' = s.heap.objs.size → Fr h₀ L' h₁ (fun y => binds.reverse.lookup y) → News h₀ L' h₁ news → Kp s.heap h₁ → K.In h₀ → Top p loose mean mg mb h₀ →
      wpAny (model prog w) (A.deeper (envOf qual scope L' f cdv)) (execs body (envOf qual scope L' f cdv))
        (fun fl s' => R (.ok (.ret (match fl with | .ret v => v | _ => .none))) s')
        (fun e s' => wpAny (model prog w) (A.deeper (envOf qual scope L' f cdv)) (leaving (envOf qual scope L' f cdv) e) (fun _ s'' => R (.error e) s'') (fun e' s'' => R (.error e') s'') s')
        { s with heap := h₁, toks := s.toks + binds.length })
    (hco : scope.isCoroutine = false := by rfl) (hgen : scope.isGenerator = false := by rfl) (hk : scope.kind = .function := by rfl)
    (hcell : ∀ x ∈ scope.names, x.2 ≠ .cell := by decide) : codeAny (model prog w) A (.call (.ref f) args) R s :=
  codeAny_call_def (fd := fnOf name qual params body scope dV kV doc pm an cdv ct) (body := body) (binds := binds) hroom (k₀ _ _ (X _ _ ho)) rfl (T.nolimit.keeps k₀) (codeRec_of (X.keeps k₀) hcd) rfl hbind hcell hloc
    (fun h₁ hns hk₁ => h s.heap.objs.size h₁ rfl ⟨hns, fun b o e => hk₁ b o (k₀ b o e), hs₀⟩ (fun q hq => ⟨hk₁ _ _ (N q hq).1, Nat.ne_of_lt (Heap.lt_size (N q hq).1), (N q hq).2⟩) hk₁ X T) hco hgen hk
section
variable {w : World} {A : Around} {s : Shared} {E : Value → Shared → Prop} {h₀ hB : Heap} {L : Addr} {m : Str → Option Value} {news : List (Addr × Obj)} {a g C : Addr} {ys : List Str} {k : Nat} {og oC : Obj} {gl : Obj → List (Addr × Obj)}
theorem next_by {prog : Program} {x : Value} {ty : String} {id : String} {Q : Value → Shared → Prop} (hT : s.TypeIs x ty) (hl : Slot ty "__next__" id) (h : wpAny (model prog w) A.in1 (callSpecial? x (Str.ofString "__next__")) (fun r s' => ∃ v, r = some v ∧ Q v s') E s) : wpAny (model prog w) A (call (.builtin "next") [x]) Q E s := by
  refine call_function_entry (by decide +kernel) (by decide +kernel) kdk_entry_next (kdk_args_next _) ?_
  unfold Builtin.«next»
  refine wpAny_bind (m := someArgs "next" 1 2 _) (wpAny_of_eq (a := [x]) (by first | rfl | kernel_rfl!) ?_)
  dsimp only
  refine wpAny_bind (wpAny_specialOf (name := Str.ofString "__next__") hT hl.lookup ?_)
  refine wpAny_ite_split (fun hab => absurd hab (by simp)) (fun _ => ?_)
  refine wpAny_bind (wpAny_mono h (fun r s' hr => ?_) fun _ _ e => e)
  obtain ⟨v, rfl, hq⟩ := hr
  exact wpAny_pure ⟨_, rfl, hq⟩
theorem upd_news {h h' : Heap} {oC' : Obj} (F : Fr h₀ L h m) (N : News h₀ L h news) (U : UpdF C oC news gl) (k : Kx C h h') (hC : h'.get? C = some oC') : Fr h₀ L h' m ∧ News h₀ L h' (gl oC') := by
  obtain ⟨own, rest, e, hg, h1, h2⟩ := U.split
  have hm := N (C, oC) (by rw [e]; exact List.mem_append_right _ (.head _))
  refine ⟨⟨?_, fun b o q => k b o (fun z => ?_) (F.keep b o q), F.above⟩, fun q hq => ?_⟩
  · obtain ⟨oL, es, ep, e1, e2⟩ := F.ns
    exact ⟨oL, es, ep, k _ _ (Ne.symm hm.2.1) e1, e2⟩
  · have := hm.2.2; rw [← z, q] at this; cases this
  · rw [hg] at hq
    rcases List.mem_append.mp hq with hq | hq
    · have := N q (by rw [e]; exact List.mem_append_left _ hq)
      exact ⟨k _ _ (h1 q hq) this.1, this.2⟩
    · rcases List.mem_cons.mp hq with rfl | hq
      · exact ⟨hC, hm.2⟩
      · have := N q (by rw [e]; exact List.mem_append_right _ (.tail _ hq))
        exact ⟨k _ _ (h2 q hq) this.1, this.2⟩
theorem next_gen {Q : Value → Shared → Prop} (hA : AncAt w hB a g C ys k s) (F : Fr h₀ L s.heap m) (N : News h₀ L s.heap news) (U : UpdF C oC news gl) (hk : k ≤ ys.length) (hh : A.handled = none) (hd : A.depth ≤ 400) (hu : A.units ≤ 3999)
    (hQ : ∀ h' tk gs oC' y t, ys[k]? = some y → GenOnlyQ g s.gens gs → Fr h₀ L h' m → News h₀ L h' (gl oC') → h'.get? C = some oC' → AncAt w hB a g C ys (k + 1) { s with heap := h', toks := tk, gens := gs } → Q (.str y t) { s with heap := h', toks := tk, gens := gs })
    (hE : ∀ h₁ h' tk gs oC' e, k = ys.length → GenOnlyQ g s.gens gs → Fr h₀ L h₁ m → News h₀ L h₁ (gl oC') → Kx C s.heap h₁ → Heap.NewExc h₁ h' e "StopIteration" → E (.ref e) { s with heap := h', toks := tk, gens := gs }) :
    wpAny (model prg w) A (call (.builtin "next") [.ref a]) Q E s := by
  obtain ⟨own, rest, e, hg, h1, h2⟩ := id U.split
  have hm := N (C, oC) (by rw [e]; exact List.mem_append_right _ (.head _))
  refine next_by hA.gen.typeIs slot_gen_next (hA.next hk hh (by simpa using hd) (by simp; omega) (fun v s' hv hA' hm' => ?_) (fun e s₁ h' hk' hm' hoC' hb' hne => ?_))
  · obtain ⟨y, t, hy, rfl⟩ := hv
    obtain ⟨hp, gs, dr, tk, os⟩ := s'
    obtain ⟨q1, q2, q3, q4, q5⟩ := hm'
    dsimp only at q1 q2 q3 q4 q5
    subst q3 q4
    obtain ⟨oC', hoC'⟩ := hA'.hasC
    obtain ⟨F', N'⟩ := upd_news F N U (fun b o hb e => q1 b o (by simpa using hb) e) hoC'
    exact ⟨_, rfl, hQ hp tk gs oC' y t hy q2 F' N' hoC' hA'⟩
  · obtain ⟨hp, gs, dr, tk, os⟩ := s₁
    obtain ⟨q1, q2, q3, q4, q5⟩ := hm'
    dsimp only at q1 q2 q3 q4 q5
    subst q3 q4
    obtain ⟨oC', hoC'⟩ := hoC'
    obtain ⟨F', N'⟩ := upd_news F N U (fun b o hb e => q1 b o (by simpa using hb) e) hoC'
    exact hE hp h' tk gs oC' e hk' q2 F' N' (fun b o hb e => q1 b o (by simpa using hb) e) hne
end
end Mine
namespace Mine
/-- an exception under way: e, its place T, whose flight it is -/
noncomputable def TrAt (h : Heap) (e T : Addr) (fl : Value) : Prop :=
  ∃ oe vs oT ts, h.get? e = some oe ∧ oe.cls = .type "StopIteration" ∧ oe.data = .fields vs ∧ vs[1]? = some (.ref T) ∧ T ≠ e ∧ h.get? T = some oT ∧ oT.data = .fields ts ∧ ts[3]? = some fl
theorem TrAt.type {s : Shared} {e T : Addr} {fl : Value} (x : TrAt s.heap e T fl) : s.TypeIs (.ref e) "StopIteration" := let ⟨oe, _, _, _, a1, a2, _⟩ := x; ⟨oe, a1, a2⟩
section
variable {M : Model} {A : Around} {E : Value → Shared → Prop} {s : Shared} {env : Env} {outer : List Env} {L e T : Addr} {fl : Value}
theorem setFlight_tr {f : Option Addr} {Q : Unit → Shared → Prop} (x : TrAt s.heap e T fl) (h : ∀ h', TrAt h' e T (f.elim .none fun f => rawInt f) → Heap.SameBut T s.heap h' → Q () { s with heap := h' }) : wpAny M A (setFlight (.ref e) f) Q E s := by
  obtain ⟨oe, vs, oT, ts, a1, a2, a3, a4, a5, a6, a7, a8⟩ := x
  unfold setFlight
  refine wpAny_bind (wpAny_field a1 a3 a4 ?_)
  rw [if_pos (show (Value.ref T != Value.none) = true from by simp)]
  have hlt : 3 < ts.size := (Array.getElem?_eq_some_iff.mp a8).1
  refine wpAny_setField a6 a7 hlt (h _ ?_ (Heap.SameBut.update ..))
  have d3 := Obj.data_mapFields a7 (·.setIfInBounds 3 (f.elim Value.none fun f => rawInt f))
  exact ⟨oe, vs, _, _, (Heap.get?_update_other _ _ a5).trans a1, a2, a3, a4, a5, Heap.get?_update_self _ a6 (Obj.isFreed_of_fields d3), d3, by simp [hlt]⟩
theorem noteFrame_here {Q : Unit → Shared → Prop} (x : TrAt s.heap e T (rawInt L)) (hf : env.frame = some L) (h : Q () s) : wpAny M A (noteFrame (.ref e) env) Q E s := by
  obtain ⟨oe, vs, oT, ts, a1, a2, a3, a4, a5, a6, a7, a8⟩ := x
  unfold noteFrame
  simp only [hf]
  refine wpAny_bind (wpAny_field a1 a3 a4 ?_)
  rw [if_pos (show (Value.ref T != Value.none) = true from by simp)]
  refine wpAny_bind (wpAny_field a6 a7 a8 ?_)
  rw [if_pos (by simp)]
  exact wpAny_pure h
theorem leaving_here {Q : Unit → Shared → Prop} (x : TrAt s.heap e T (rawInt L)) (hf : env.frame = some L) (h : ∀ h', TrAt h' e T .none → Heap.SameBut T s.heap h' → Q () { s with heap := h' }) : wpAny M A (leaving env (.ref e)) Q E s := by
  unfold leaving
  exact wpAny_bind (noteFrame_here x hf (setFlight_tr (f := none) x h))
theorem cameBack_here {E' : Value → Shared → Prop} (x : TrAt s.heap e T fl) (hf : env.frame = some L) (h : ∀ h', TrAt h' e T (rawInt L) → Heap.SameBut T s.heap h' → E' (.ref e) { s with heap := h' }) : cameBackBy M A env E' (.ref e) s := by
  obtain ⟨oe, vs, oT, ts, a1, a2, a3, a4, a5, a6, a7, a8⟩ := id x
  unfold cameBackBy
  refine wpAny_bind (wpAny_field a1 a3 a4 ?_)
  rw [if_neg (show ¬ ((Value.ref T == Value.none) = true) from by simp)]
  rw [hf]
  exact setFlight_tr (f := some L) x h
theorem raise_bare {pos : Pos} {Q : Flow → Shared → Prop} (hh : A.handled = some (.ref e)) (x : TrAt s.heap e T fl) (hf : env.frame = some L) (h : ∀ h', TrAt h' e T (rawInt L) → Heap.SameBut T s.heap h' → E (.ref e) { s with heap := h' }) :
    wpAny M A (exec (.Raise none none pos) env) Q E s := by
  obtain ⟨oe, vs, oT, ts, a1, a2, a3, a4, a5, a6, a7, a8⟩ := id x
  show wpAny M A (do standAt pos; raiseStmt env none none) Q E s
  refine wpAny_bind (wpAny_standAt ?_)
  unfold raiseStmt
  refine wpAny_bind (wpAny_handled ?_)
  rw [hh]
  refine wpAny_bind (wpAny_rule (wpAny_bind (wpAny_field a1 a3 a4 ?_)))
  rw [if_neg (show ¬ ((Value.ref T == Value.none) = true) from by simp)]
  refine wpAny_bind ?_
  rw [hf]
  exact setFlight_tr (f := some L) x fun h' x' k => wpAny_throw (h h' x' k)
/-- the first frame that an exception of the interpreter's meets -/
theorem note_first {LL : Addr} {envL : Env} {Q : Unit → Shared → Prop} {h₁ : Heap} (hfr : A.frames = some [env, envL]) (hk : env.scope.kind ≠ .module) (hkL : envL.scope.kind ≠ .module) (hf : env.frame = some L) (hfL : envL.frame = some LL) (hne : Heap.NewExc h₁ s.heap e "StopIteration")
    (hL : ∃ m, h₁.Ns L m) (hLL : ∃ m, h₁.Ns LL m)
    (k : ∀ h' T, (∀ b o, b ≠ L → b ≠ LL → h₁.get? b = some o → h'.get? b = some o) → (∀ m, h₁.Ns L m → h'.Ns L m) → (∀ m, h₁.Ns LL m → h'.Ns LL m) → TrAt h' e T .none → h₁.get? T = none → h₁.get? e = none → Q () { s with heap := h' }) :
    wpAny M A (noteFrame (.ref e) env) (fun _ s' => wpAny M A (setFlight (.ref e) none) Q E s') E s := by
  obtain ⟨ob, tp, he, hcls, hd⟩ := hne.there
  obtain ⟨mL, oL, es, ep, eL, dL, rL⟩ := hL
  obtain ⟨mLL, oLL, es2, ep2, eLL, dLL, rLL⟩ := hLL
  have eL' := hne.keeps _ _ eL
  have eLL' := hne.keeps _ _ eLL
  have nLe : L ≠ e := fun z => by have := hne.new; rw [← z, eL] at this; cases this
  have nLLe : LL ≠ e := fun z => by have := hne.new; rw [← z, eLL] at this; cases this
  have hbase : ∀ b o, (hideAll s.heap [L, LL, e]).get? b = some o → s.heap.get? b = some o := fun b o q => of_hideAll _ q
  have hl : s.heap.FunFrames (hideAll s.heap [L, LL, e]) [env, envL] :=
    ⟨hk, ⟨L, oL, hf, hideAll_none _ (.head _), eL', fun vs z => by rw [dL] at z; cases z⟩, hkL, ⟨LL, oLL, hfL, hideAll_none _ (.tail _ (.head _)), eLL', fun vs z => by rw [dLL] at z; cases z⟩, trivial⟩
  unfold noteFrame
  simp only [hf]
  refine wpAny_bind (wpAny_field he hd (x := .none) rfl ?_)
  rw [if_neg (by decide)]
  refine wpAny_newEntry hfr hl hf he hbase (hideAll_none _ (.tail _ (.tail _ (.head _)))) hd (by simp) fun h' hleft => ?_
  obtain ⟨q1, q2, q3, q4⟩ := hleft
  obtain ⟨oe, vs, T, oT, ts, a1, a2, a3, a4, a5, a6, a7, a8, a9⟩ := q3
  have up : ∀ (D : Addr) (oD : Obj) (m : Str → Option Value) (esD : Array DictEntry) (epD : Nat), s.heap.get? D = some oD → oD.data = .dict esD epD → (StrKeys esD ∧ ∀ name, nsFind esD name = m name) → h'.Ns D m := fun D oD m esD epD x y z => by
    obtain ⟨sl, hsl⟩ := q4 D oD x (fun vs w => by rw [y] at w; cases w)
    exact ⟨_, esD, epD, hsl, y, z⟩
  refine k h' T (fun b o n1 n2 q => ?_) (fun m hm => ?_) (fun m hm => ?_) ⟨oe, vs, oT, ts, a1, a2.trans hcls, a3, a4, a6, a7, a8, a9⟩ ?_ hne.new
  · refine q1 b o (hideAll_get _ (hne.keeps _ _ q) fun hm => ?_)
    rcases List.mem_cons.mp hm with z | hm
    · exact n1 z
    rcases List.mem_cons.mp hm with z | hm
    · exact n2 z
    · have z := List.mem_singleton.mp hm
      rw [z, hne.new] at q; cases q
  · obtain ⟨o, es', ep', x, y, z⟩ := hm
    exact up L o m es' ep' (hne.keeps _ _ x) y z
  · obtain ⟨o, es', ep', x, y, z⟩ := hm
    exact up LL o m es' ep' (hne.keeps _ _ x) y z
  · cases z : h₁.get? T with
    | none => rfl
    | some o =>
      have z1 := hne.keeps _ _ z
      by_cases h1 : T = L
      · subst h1
        rw [eL] at z; cases z
        obtain ⟨sl, hsl⟩ := q4 T oL eL' (fun vs w => by rw [dL] at w; cases w)
        rw [a7] at hsl; cases hsl
        rw [show _ = Data.dict es ep from dL] at a8; cases a8
      · by_cases h2 : T = LL
        · subst h2
          rw [eLL] at z; cases z
          obtain ⟨sl, hsl⟩ := q4 T oLL eLL' (fun vs w => by rw [dLL] at w; cases w)
          rw [a7] at hsl; cases hsl
          rw [show _ = Data.dict es2 ep2 from dLL] at a8; cases a8
        · have z2 := hideAll_get [L, LL, e] z1 (by simp [h1, h2, a6])
          rw [a5] at z2; cases z2
end
end Mine
namespace Mine
theorem resetBh1 : True := by
  k_with_none
  w_top off
  trivial
section
variable {w : World} {s : Shared} {mg mb : Str → Option Value} {mean : ExcName → Option Value} {d u : Nat} {gd : Option (List Code)} {envL : Env} {LL : Nat} {oL : Obj} {E : Value → Shared → Prop}
variable {hB h₀ : Heap} {x dd a C g k : Nat} {o og oC : Obj} {ys : List Str} {news : List (Addr × Obj)}
noncomputable def IslItem (w : World) (hB : Heap) (x dd a C g LL : Nat) (oL og : Obj) (ys : List Str) (k : Nat) (h₀ : Heap) (s : Shared) (r : Result) (s' : Shared) : Prop :=
  ∃ y t h' tk gs o', ys[k]? = some y ∧ r = .ok (.ret (.str y t)) ∧ s' = { s with heap := h', toks := tk, gens := gs } ∧ GenOnlyQ g s.gens gs ∧ Kp h₀ h' ∧
    h'.get? x = some o' ∧ IslObj dd (.ref a) ((k + 1 : Nat) : Int) ((k + 1 : Nat) : Int) o' ∧ AncAt w hB a g C ys (k + 1) s' ∧ h'.get? dd = some (dictOf [] 0) ∧ h'.get? LL = some oL ∧ h'.get? a = some og
noncomputable def IslStop (g LL : Nat) (mL : Str → Option Value) (h₀ : Heap) (s : Shared) (r : Result) (s' : Shared) : Prop :=
  ∃ e T h' tk gs, r = .error (.ref e) ∧ s' = { s with heap := h', toks := tk, gens := gs } ∧ GenOnlyQ g s.gens gs ∧ Kp h₀ h' ∧ TrAt h' e T .none ∧ h₀.get? e = none ∧ h'.Ns LL mL
structure Parked (P : Prop) : Prop where
  out : P
theorem two {P Q : Prop} (h : Parked P → Q) (p : P) : Q := h ⟨p⟩
theorem TrAt.mk {h₀ h : Heap} {L e T : Addr} {oe oT : Obj} {vs ts : Array Value} {fl : Value} {l : List (Addr × Obj)} (N : News h₀ L h ((e, oe) :: (T, oT) :: l)) (b2 : oe.cls = .type "StopIteration") (b3 : oe.data = .fields vs) (b4 : vs[1]? = some (.ref T)) (b5 : T ≠ e) (b7 : oT.data = .fields ts) (b8 : ts[3]? = some fl) : TrAt h e T fl :=
  ⟨oe, vs, oT, ts, (N _ (.head _)).1, b2, b3, b4, b5, (N _ (.tail _ (.head _))).1, b7, b8⟩
theorem isl_any (X : (hd.heap_1 w.params).In h₀) (T : Top topProg lg mean mg mb h₀) (hBk : Kp hB h₀) (k₀ : Kp h₀ s.heap) (hs₀ : h₀.objs.size ≤ s.heap.objs.size)
    (N : ∀ q ∈ [(x, o), (dd, dictOf [] 0), (a, og), (C, oC), (LL, oL)], s.heap.get? q.1 = some q.2 ∧ h₀.get? q.1 = none) {c n : Int} (ho : IslObj dd (.ref a) c n o) (hA : AncAt w hB a g C ys k s)
    {j : Nat} (hcn : (c = 0 ∧ n = j ∧ k = 0 ∧ j = 1) ∨ (c = j ∧ n = j ∧ k = j)) (hk1 : 1 ≤ ys.length) (hj : j ≤ ys.length) (hkm : ys.length ≤ 1000)
    (n9 : dd ≠ LL) (n10 : a ≠ LL) (hkL : envL.scope.kind ≠ .module) (hfL : envL.frame = some LL) {mL : Str → Option Value} (hnsL : ∀ h : Heap, h.get? LL = some oL → h.Ns LL mL) (hroom : d ≤ 390) (hu : u ≤ 3000) (n1 : x ≠ dd) (n2 : x ≠ a) (n3 : x ≠ C) (n4 : dd ≠ a) (n5 : dd ≠ C) (n6 : a ≠ C) (n7 : x ≠ LL) (n8 : C ≠ LL) :
    codeAny (model prg w) ⟨none, d, some [envL], gd, u⟩ (.call (.ref 64) ⟨[.ref x], []⟩) (fun r s' => (j < ys.length → IslItem w hB x dd a C g LL oL og ys (j) h₀ s r s') ∧ (j = ys.length → IslStop g LL mL h₀ s r s')) s := by
  obtain ⟨t0, t2, t3, t4, rfl⟩ := ho
  refine' call_anyN X T k₀ hs₀ N ?k6 ?k7 (by unfold recursionLimit; show d < 1000; omega) ?k9 ?kB ?_ ?c2 ?c3 ?c4 ?c5; (case k6 => k_is); (case k7 => k_is); (case k9 => exact BindsTo.of_eq rfl); (case c5 => decide); (case kB => exact locs rfl); (case c2 => exact rfl); (case c3 => exact rfl); (case c4 => exact rfl)
  intro L' h' hL F' N' k1 X' T'; (try dsimp only)
  k_fold
  k_steps
  have hn : n = ((j : Nat) : Int) := hcn.elim (fun q => q.2.1) fun q => q.2.1
  refine' two (fun tail => ?_) ?_
  rotate_left
  obtain ⟨e1, e2, e3, e4⟩ | ⟨e1, e2, e3⟩ := hcn
  · rw [show decide (c < n) = true from by simp [e1, e2, e4]]
    k_steps
    with_reducible rename Fr _ L' _ _ => kF
    with_reducible rename News _ L' _ _ => kN
    have hoa := (N (a, og) (.tail _ (.tail _ (.head _)))).1
    have hoC := (N (C, oC) (.tail _ (.tail _ (.tail _ (.head _))))).1
    refine' next_gen (hA.frame (fun o' e => by rw [hoa] at e; cases e; exact (kN _ (.tail _ (.tail _ (.head _)))).1) (fun o' e => by rw [hoC] at e; cases e; exact (kN _ (.tail _ (.tail _ (.tail _ (.head _))))).1) (hBk.trans kF.keep)) kF kN (.tail n3 (.tail n5 (.tail n6 (.head (List.forall_mem_cons.mpr ⟨Ne.symm n8, List.forall_mem_nil _⟩))))) (e3 ▸ Nat.zero_le _) rfl ?hd ?hu ?hQ ?hE
    case hd => exact Nat.le_trans (Nat.succ_le_succ hroom) (by decide)
    case hu => exact Nat.le_trans (Nat.add_le_add_right hu 3) (by decide)
    case hE => intro h1 h2 tk gs oC' e hk; exact absurd (hk.symm.trans e3) (Nat.ne_of_gt hk1)
    intro h2 tk2 gs oC2 y t hy hgo F2 N2 hoC2 hA3
    have hog2 : h2.get? a = some og := (N2 _ (.tail _ (.tail _ (.head _)))).1
    (try dsimp only at F2 N2 hA3 ⊢)
    show wpAny _ _ _ _ _ _
    k_fold
    k_steps
    rw [show decide (c + 1 < n) = false from by simp [e1, e2, e4]]
    k_steps
    with_reducible rename Fr _ L' _ _ => kF2
    with_reducible rename News _ L' _ _ => kN2
    have hA4 := hA3.frame (tk := 0) (fun o' e => by rw [show _ = some og from hog2] at e; cases e; exact (kN2 _ (.tail _ (.tail _ (.head _)))).1) (fun o' e => by rw [show _ = some oC2 from hoC2] at e; cases e; exact (kN2 _ (.tail _ (.tail _ (.tail _ (.head _))))).1) (hBk.trans kF2.keep)
    rw [show k + 1 = j from by rw [e3, e4]] at hA4
    rw [show c + 1 = n from by rw [e1, e2, e4]; rfl] at kN2
    obtain ⟨o', hI, kN3⟩ : ∃ o', IslObj dd (.ref a) n n o' ∧ News h₀ L' _ [(x, o'), (dd, dictOf [] 0), (a, og), (C, oC2), (LL, oL)] := ⟨_, ⟨_, _, _, _, rfl⟩, kN2⟩
    (try dsimp only at hA4)
    clear kN2 hA3 hoC2 hog2 hy
    have hgo1 : GenOnlyQ g s.gens gs := hgo
    clear hgo
    with_reducible rename Heap => hX
    revert hA4 kF2 kN3 hI hgo1
    revert o' oC2 gs tk hX
    exact tail.out
  · rw [show decide (c < n) = false from by simp [e1, e2]]
    k_steps
    with_reducible rename Fr _ L' _ _ => kF2
    with_reducible rename News _ L' _ _ => kN2
    have hoa := (N (a, og) (.tail _ (.tail _ (.head _)))).1
    have hoC := (N (C, oC) (.tail _ (.tail _ (.tail _ (.head _))))).1
    have hA4 := hA.frame (tk := 0) (fun o' e => by rw [hoa] at e; cases e; exact (kN2 _ (.tail _ (.tail _ (.head _)))).1) (fun o' e => by rw [hoC] at e; cases e; exact (kN2 _ (.tail _ (.tail _ (.tail _ (.head _))))).1) (hBk.trans kF2.keep)
    rw [e3] at hA4
    obtain ⟨o', hI, kN3⟩ : ∃ o', IslObj dd (.ref a) n n o' ∧ News h₀ L' _ [(x, o'), (dd, dictOf [] 0), (a, og), (C, oC), (LL, oL)] := ⟨_, ⟨_, _, _, _, by rw [e1, e2]⟩, kN2⟩
    (try dsimp only at hA4)
    exact tail.out _ _ _ _ _ kF2 hA4 hI kN3 (.inl rfl)
  intro hX tkX gs oC' o' kF hA4 hI kN hgo0
  obtain ⟨t0', t2', t3', t4', rfl⟩ := hI
  have NI := N
  clear hA N k1 hcn
  refine' next_gen (hA4.frame (fun _ e => e) (fun _ e => e) hA4.base) kF kN (.tail n3 (.tail n5 (.tail n6 (.head (List.forall_mem_cons.mpr ⟨Ne.symm n8, List.forall_mem_nil _⟩))))) hj rfl ?hd3 ?hu3 ?hQ3 ?hE3
  case hd3 => exact Nat.le_trans (Nat.succ_le_succ hroom) (by decide)
  case hu3 => exact Nat.le_trans (Nat.add_le_add_right hu 3) (by decide)
  · intro h2 tk2 gs2 oC2 y t hy hgo F2 N2 hoC2 hA3
    have hlt : j < ys.length := by
      rcases Nat.lt_or_ge (j) ys.length with z | z
      · exact z
      · rw [List.getElem?_eq_none z] at hy; cases hy
    have hog2 : h2.get? a = some og := (N2 _ (.tail _ (.tail _ (.head _)))).1
    (try dsimp only at F2 N2 hA3 ⊢)
    clear kF kN hA4
    show wpAny _ _ _ _ _ _
    k_fold
    k_steps
    with_reducible rename Fr _ L' _ _ => kF
    with_reducible rename News _ L' _ _ => kN
    · (try intro _)
      exact ⟨y, t, _, _, _, _, hy, rfl, rfl, hgo0.trans hgo, kF.keep, (kN _ (.head _)).1, ⟨_, _, _, _, by rw [hn]; rfl⟩, hA3.frame (fun o' e => by rw [show _ = some og from hog2] at e; cases e; exact (kN _ (.tail _ (.tail _ (.head _)))).1) (fun o' e => by rw [show _ = some oC2 from hoC2] at e; cases e; exact (kN _ (.tail _ (.tail _ (.tail _ (.head _))))).1) (hBk.trans kF.keep), (kN _ (.tail _ (.head _))).1, (kN _ (.tail _ (.tail _ (.tail _ (.tail _ (.head _)))))).1, (kN _ (.tail _ (.tail _ (.head _)))).1⟩
    · first | (intro z; exact absurd z (Nat.ne_of_lt hlt)) | omega
  · intro h1 h2 tk2 gs2 oC2 e hk' hgo F2 N2 hK hne
    (try dsimp only at F2 N2 hne ⊢)
    refine note_first (LL := LL) (envL := envL) rfl (by intro z; cases z) hkL rfl hfL hne ⟨_, F2.ns⟩ ⟨_, hnsL h1 (N2 _ (.tail _ (.tail _ (.tail _ (.tail _ (.head _)))))).1⟩ ?_
    intro h3 T q1 q2 q3 hT nT nE
    have hl1 := (N2 _ (.tail _ (.tail _ (.tail _ (.tail _ (.head _))))))
    have F3 := Fr.mk (h₀ := h₀) (q2 _ F2.ns) (fun b o e => q1 b o (Nat.ne_of_lt (Nat.lt_of_lt_of_le (Heap.lt_size e) F2.above)) (fun z => by rw [z, hl1.2.2] at e; cases e) (F2.keep b o e)) F2.above
    obtain ⟨oL2, esL, epL, eL2, dL2, rL2⟩ := q3 mL (hnsL h1 hl1.1)
    have hT0 := hT
    obtain ⟨oe, vs, oT, ts, a1, a2, a3, a4, a5, a6, a7, a8⟩ := hT0
    have fr0 : ∀ b, h1.get? b = none → h₀.get? b = none := fun b hb => by
      cases z : h₀.get? b with
      | none => rfl
      | some o => rw [F2.keep _ _ z] at hb; cases hb
    have frL : ∀ b, h1.get? b = none → b ≠ L' := fun b hb z => by
      obtain ⟨oz, _, _, ez, _⟩ := F2.ns
      rw [z, ez] at hb; cases hb
    have up : ∀ {b : Addr} {ob : Obj}, b ≠ LL → h1.get? b = some ob ∧ b ≠ L' ∧ h₀.get? b = none → h3.get? b = some ob ∧ b ≠ L' ∧ h₀.get? b = none := fun n q => ⟨q1 _ _ q.2.1 n q.1, q.2⟩
    have N3 : News h₀ L' h3 [(x, { cls := .ref 68, dict := some dd, slots := #[some (.int n t0'), some (.ref a), some (.int n t2'), some (.int 1 t3'), some (.int (-1) t4')] }), (dd, dictOf [] 0), (a, og), (C, oC2), (LL, oL2)] := by
      refine List.forall_mem_cons.mpr ⟨up n7 (N2 _ (.head _)), List.forall_mem_cons.mpr ⟨up n9 (N2 _ (.tail _ (.head _))), List.forall_mem_cons.mpr ⟨up n10 (N2 _ (.tail _ (.tail _ (.head _)))), List.forall_mem_cons.mpr ⟨up n8 (N2 _ (.tail _ (.tail _ (.tail _ (.head _))))), List.forall_mem_cons.mpr ⟨⟨eL2, hl1.2⟩, List.forall_mem_nil _⟩⟩⟩⟩⟩
    have neq : ∀ {b z : Addr} {ob : Obj}, h1.get? z = none → h1.get? b = some ob → b ≠ z := fun p q r => by rw [r, p] at q; cases q
    have hT6 : ∀ p ∈ [(x, { cls := .ref 68, dict := some dd, slots := #[some (.int n t0'), some (.ref a), some (.int n t2'), some (.int 1 t3'), some (.int (-1) t4')] }), (dd, dictOf [] 0), (a, og), (C, oC2), (LL, oL2)], p.1 ≠ T :=
      List.forall_mem_cons.mpr ⟨neq nT (N2 _ (.head _)).1, List.forall_mem_cons.mpr ⟨neq nT (N2 _ (.tail _ (.head _))).1, List.forall_mem_cons.mpr ⟨neq nT (N2 _ (.tail _ (.tail _ (.head _)))).1, List.forall_mem_cons.mpr ⟨neq nT (N2 _ (.tail _ (.tail _ (.tail _ (.head _))))).1, List.forall_mem_cons.mpr ⟨neq nT hl1.1, List.forall_mem_nil _⟩⟩⟩⟩⟩
    have ne1 : x ≠ e := neq nE (N2 _ (.head _)).1
    have ne2 : x ≠ T := neq nT (N2 _ (.head _)).1
    have ne3 : LL ≠ e := neq nE hl1.1
    have ne4 : LL ≠ T := neq nT hl1.1
    have nLe := frL _ nE
    have nLT := frL _ nT
    have n0e := fr0 _ nE
    have n0T := fr0 _ nT
    clear F2 N2 fr0 frL up neq kF kN hA4 NI
    refine wpAny_handleBy_builtin (X := "StopIteration") (T := "BaseException") (b := true) (by rw [isSubtype_type]; kernel_rfl) (by rw [isSubtype_type]; kernel_rfl) (by rw [isSubtype_type]; kernel_rfl) ?_
    (refine' name_B F3 ?k1 ?k2 ?k3 ?k4 ?k5 ?_; (case k1 => k_asm); (case k2 => k_asm); (case k3 => k_is); (case k4 => boot_by_name); (case k5 => decide))
    refine ⟨rfl, hT.type, ?_⟩
    rw [if_pos rfl]
    refine setFlight_tr (f := none) hT fun h4 hT4 s4 => ?_
    have F4 := ksk_fr F3 s4 nLT n0T
    have N4 := ksk_news N3 s4 hT6
    obtain ⟨oe', vs', oT', ts', b1, b2, b3, b4, b5, b6, b7, b8⟩ := id hT4
    have N5 : News h₀ L' h4 ((e, oe') :: (T, oT') :: _) := List.forall_mem_cons.mpr ⟨⟨b1, nLe, n0e⟩, List.forall_mem_cons.mpr ⟨⟨b6, nLT, n0T⟩, N4⟩⟩
    clear F3 N3 N4 q1 q2 q3 hT s4 a1 a2 a3 a4 a6 a7 a8
    show wpAny _ _ _ _ _ _
    k_fold
    k_steps
    with_reducible rename Fr _ _ _ _ => F6
    with_reducible rename News _ _ _ _ => N6
    have hT6' : TrAt _ e T Value.none := TrAt.mk N6 b2 b3 b4 b5 b7 b8
    refine raise_bare (L := L') rfl hT6' rfl fun h7 hT7 s7 => ?_
    show wpAny _ _ (noteFrame _ _) _ _ _
    refine noteFrame_here hT7 rfl ?_
    refine cameBack_here (L := L') hT7 rfl fun h8 hT8 s8 => ?_
    show wpAny _ _ (leaving _ _) _ _ _
    refine leaving_here hT8 rfl fun h9 hT9 s9 => ?_
    have s79 := (s7.trans s8).trans s9
    have F9 := ksk_fr F6 s79 nLT n0T
    refine ⟨fun z => absurd hk' (Nat.ne_of_lt z), fun _ => ⟨e, T, h9, _, gs2, rfl, rfl, hgo0.trans hgo, F9.keep, hT9, n0e, ?_⟩⟩
    exact ⟨oL2, esL, epL, (s79.2 _ ne4).trans (N6 _ (.tail _ (.tail _ (.tail _ (.tail _ (.tail _ (.tail _ (.head _)))))))).1, dL2, rL2⟩
end
end Mine
namespace Mine
/-- an iterator that is walked n times while the list S is being filled -/
structure Itr (prog : Program) (w : World) (A : Around) (S : Addr) (I : Addr) (n : Nat) (P : Nat → Value → Prop) (St : Nat → Shared → Prop) (En : Shared → Prop) : Prop where
  frame : ∀ i (s : Shared) h' tk, St i s → (∀ b o, b ≠ S → s.heap.get? b = some o → h'.get? b = some o) → St i { s with heap := h', toks := tk }
  item : ∀ i (s : Shared) (oS : Obj) (Q : Option Value → Shared → Prop) (E : Value → Shared → Prop), i < n → St i s → s.heap.get? S = some oS →
    (∀ v s', P i v → St (i + 1) s' → s'.heap.get? S = some oS → Q (some v) s') → wpAny (model prog w) A (pyNext (.ref I)) Q E s
  done : ∀ (s : Shared) (oS : Obj) (Q : Option Value → Shared → Prop) (E : Value → Shared → Prop), St n s → s.heap.get? S = some oS → (∀ s', En s' → s'.heap.get? S = some oS → Q none s') → wpAny (model prog w) A (pyNext (.ref I)) Q E s
  self : ∀ (s : Shared) (Q : Value → Shared → Prop) (E : Value → Shared → Prop), St 0 s → (∀ s', St 0 s' → (∀ oS, s.heap.get? S = some oS → s'.heap.get? S = some oS) → Q (.ref I) s') → wpAny (model prog w) A (pyIter (.ref I)) Q E s
  /-- its type, no list and no tuple, with neither length nor hint -/
  kind : ∀ (s : Shared), St 0 s → ∃ T, (∀ M, Looks M s.heap (typeOf (.ref I)) T) ∧ (T == .type "list") = false ∧ (T == .type "tuple") = false ∧
    (∀ M, Looks M s.heap (typeLookup T "__len__") none) ∧ (∀ M, Looks M s.heap (typeLookup T "__length_hint__") none)
section
variable {prog : Program} {w : World} {A : Around} {R : Result → Shared → Prop} {I S : Addr} {n : Nat} {P : Nat → Value → Prop} {St : Nat → Shared → Prop} {En : Shared → Prop}
theorem Itr.loop (W : Itr prog w A.in1 S I n P St En) (hn : n ≤ sizeLine) (res : Value) :
    ∀ (k i : Nat) (s : Shared) (acc : Array Value) (c : Nat), n - i = k → i ≤ n → St i s → s.heap.get? S = some { cls := .type "list", dict := none, data := .seq acc c, slots := #[] } → ItemsOf P acc i →
    (∀ s' acc' c', En s' → s'.heap.get? S = some { cls := .type "list", dict := none, data := .seq acc' c', slots := #[] } → ItemsOf P acc' n → R (.ok (.ret res)) s') →
    codeAny (model prog w) A (.builtin "list.extend.loop" ⟨[.ref S, .ref I, res], []⟩) R s := by
  intro k
  induction k with
  | zero =>
    intro i s acc c hk hi hst hS hacc hR
    obtain rfl : i = n := by omega
    refine codeAny_builtin PySem.F.entry_extend_loop ?_
    rw [Around.under_plainId PySem.F.plain_extend_loop _]
    show wpAny _ A.in1 (pyNext (.ref I) >>= _) _ _ s
    refine wpAny_bind (W.done s _ _ _ hst hS fun s' he hS' => ?_)
    exact wpAny_pure (hR s' acc c he hS' hacc)
  | succ k ih =>
    intro i s acc c hk hi hst hS hacc hR
    have hlt : i < n := by omega
    refine codeAny_builtin PySem.F.entry_extend_loop ?_
    rw [Around.under_plainId PySem.F.plain_extend_loop _]
    show wpAny _ A.in1 (pyNext (.ref I) >>= _) _ _ s
    refine wpAny_bind (W.item i s _ _ _ hlt hst hS fun v s' hP hst' hS' => ?_)
    show wpAny _ A.in1 (updateSeq S (·.push v) >>= _) _ _ _
    refine wpAny_bind ?_
    refine wpAny_updateSeq hS' rfl (wpAny_pure ⟨plainId_quiet PySem.F.plain_extend_loop _, ih (i + 1) _ (acc.push v) _ (by omega) hlt (W.frame _ s' _ s'.toks hst' fun b o hb e => (Heap.get?_update_other _ _ (fun h : S = b => hb h.symm)).trans e) (Heap.get?_update_self _ hS' rfl) (hacc.push hP) hR⟩)
      (by rw [hacc.1]; omega) (by show (acc.push v).size ≤ sizeLine + 1; rw [Array.size_push, hacc.1]; omega)
theorem wpAny_specialOf_looks {M : Model} {A : Around} {E : Value → Shared → Prop} {s : Shared} {v T : Value} {name : Str} {r : Option Value} {Q : Option Value → Shared → Prop} (hT : Looks M s.heap (typeOf v) T) (hL : Looks M s.heap (typeLookup T name) r) (h : Q r s) : wpAny M A (specialOf v name) Q E s := by
  unfold specialOf
  exact wpAny_bind (hT.here (hL.here h))
theorem Itr.extend {s : Shared} (W : Itr prog w A.in1 S I n P St En) (hSI : S ≠ I) (res : Value) (c₀ : Nat) (hst : St 0 s)
    (hS : s.heap.get? S = some { cls := .type "list", data := .seq #[] c₀ })
    (hR : ∀ s' acc' c', En s' → s'.heap.get? S = some { cls := .type "list", dict := none, data := .seq acc' c', slots := #[] } → ItemsOf P acc' n → R (.ok (.ret res)) s') (hn : n ≤ sizeLine) :
    wpAny (model prog w) A.in1 (Builtin.List.listExtendWith (.ref S) (.ref I) res)
      (fun fin s' => match fin with | .done f => R (.ok f) s' | .again c' => c'.quiet = true ∧ codeAny (model prog w) A c' R s') (fun e s' => R (.error e) s') s := by
  obtain ⟨T, k1, h2, h3, _, _⟩ := W.kind s hst
  unfold Builtin.List.listExtendWith
  refine wpAny_bind ((k1 _).here ?_)
  have h1 : Builtin.List.listSameRef (.ref S) (.ref I) = false := by simp [Builtin.List.listSameRef, hSI]
  simp only [h1, h2, h3, Bool.or_false, Bool.false_eq_true, if_false]
  refine wpAny_bind (W.self _ _ _ hst fun s hst hk => ?_)
  obtain ⟨T, k1, h2, h3, k4, k5⟩ := W.kind s hst
  have hS := hk _ hS
  refine wpAny_bind (wpAny_holding ?_)
  unfold Builtin.List.listLengthHint
  refine wpAny_bind (wpAny_specialOf_looks (k1 _) (k4 _) ?_)
  show wpAny _ A.in1 (specialOf (Value.ref I) (Str.ofString "__length_hint__") >>= _) _ _ _
  refine wpAny_bind (wpAny_specialOf_looks (k1 _) (k5 _) ?_)
  refine wpAny_pure ?_
  show wpAny _ A.in1 (rule "list.extend.makes-room" >>= fun _ => Builtin.List.listTouch (.ref S) >>= fun _ =>
    again (.builtin "list.extend.loop" ⟨[.ref S, .ref I, res], []⟩)) _ _ _
  refine wpAny_bind (wpAny_rule ?_)
  refine wpAny_bind ?_
  show wpAny _ A.in1 (updateSeq S (·.push .none) >>= fun _ => updateSeq S (·.pop)) _ _ _
  refine wpAny_bind (wpAny_updateSeq hS rfl ?_)
  have hS₂ := Heap.get?_update_self (Obj.mapSeq (·.push Value.none)) hS rfl
  refine wpAny_updateSeq (hz := by seq_fits) hS₂ rfl ?_
  have hS₃ := Heap.get?_update_self (Obj.mapSeq (·.pop)) hS₂ rfl
  refine wpAny_pure ⟨plainId_quiet PySem.F.plain_extend_loop _, W.loop hn _ n 0 _ _ _ rfl (Nat.zero_le _)
    (W.frame 0 s _ s.toks hst fun b o hb e => (Heap.get?_update_other _ _ (Ne.symm hb)).trans ((Heap.get?_update_other _ _ (Ne.symm hb)).trans e)) hS₃ (ItemsOf.nil P) hR⟩
theorem Itr.init {s : Shared} (W : Itr prog w A.in1 S I n P St En) (hSI : S ≠ I) (hst : St 0 s)
    (hS : s.heap.get? S = some { cls := .type "list", data := .seq #[] })
    (hR : ∀ s' acc' c', En s' → s'.heap.get? S = some { cls := .type "list", dict := none, data := .seq acc' c', slots := #[] } → ItemsOf P acc' n → R (.ok (.ret .none)) s') (hn : n ≤ sizeLine) :
    wpAny (model prog w) A.in1 (Builtin.«list.__init__» ⟨[.ref S, .ref I], []⟩)
      (fun fin s' => match fin with | .done f => R (.ok f) s' | .again c' => c'.quiet = true ∧ codeAny (model prog w) A c' R s') (fun e s' => R (.error e) s') s := by
  show wpAny _ A.in1 (do let old ← Builtin.List.listItems (.ref S); Builtin.List.listUpdate (.ref S) (fun _ => #[]); letGo old.toList.reverse; Builtin.List.listExtendWith (.ref S) (.ref I) .none) _ _ s
  refine wpAny_bind ?_
  unfold Builtin.List.listItems
  refine wpAny_bind (wpAny_seqItems hS rfl (wpAny_pure ?_))
  show wpAny _ A.in1 (updateSeq S (fun _ => #[]) >>= fun _ => letGo (#[] : Array Value).toList.reverse >>= fun _ => Builtin.List.listExtendWith (.ref S) (.ref I) .none) _ _ s
  refine wpAny_bind (wpAny_updateSeq hS rfl ?_)
  have hS₂ := Heap.get?_update_self (Obj.mapSeq (fun _ => (#[] : Array Value))) hS rfl
  refine wpAny_bind (wpAny_letGo ?_)
  exact W.extend hSI .none _ (W.frame 0 s _ s.toks hst fun b o hb e => (Heap.get?_update_other _ _ (Ne.symm hb)).trans e) hS₂ hR hn
theorem Itr.list {E : Value → Shared → Prop} {s : Shared} {Q : Value → Shared → Prop} (hSS : S = s.heap.objs.size) (W : Itr prog w A.in1.in1 S I n P St En) (hSI : S ≠ I) (hst : St 0 s)
    (hQ : ∀ s' acc' c', En s' → s'.heap.get? S = some { cls := .type "list", dict := none, data := .seq acc' c', slots := #[] } → ItemsOf P acc' n → Q (.ref S) s') (hn : n ≤ sizeLine) :
    wpAny (model prog w) A (call (.type "list") [.ref I]) Q E s := by
  subst hSS
  refine callType_codes (Q₁ := fun obj s₁ => obj = .ref s.heap.objs.size ∧ s₁ = { s with heap := s.heap.push { cls := .type "list", data := .seq #[] } }) PySem.F.called_list (PySem.F.typeCall_list_1 _) PySem.F.entry_list_init
    (code_list_new _ ⟨rfl, rfl⟩) fun obj s₁ h₁ => ?_
  obtain ⟨rfl, rfl⟩ := h₁
  have hS : (s.heap.push { cls := .type "list", data := .seq #[] }).get? s.heap.objs.size = some { cls := .type "list", data := .seq #[] } := Heap.get?_push_size _ rfl
  refine ⟨⟨_, hS, rfl⟩, PySem.F.args_list_init_2 _ _, W.init hSI (W.frame 0 s _ s.toks hst fun b o _ e => Heap.get?_push_of_some _ e) hS (fun s' acc' c' he hS' hacc => ?_) hn⟩
  exact ⟨rfl, hQ s' acc' c' he hS' hacc⟩
end
end Mine
namespace Mine
theorem resetBl1 : True := by
  k_with_none
  w_top off
  trivial
section
variable {w : World} {s : Shared} {mg mb : Str → Option Value} {mean : ExcName → Option Value} {d u : Nat} {gd : Option (List Code)} {envL : Env} {LL : Nat} {oL : Obj} {E : Value → Shared → Prop}
variable {hB : Heap} {x dd a C g k S : Nat} {og : Obj} {ys : List Str}
noncomputable def RetIt (x : Nat) (s : Shared) (r : Result) (s' : Shared) : Prop := ∃ h' tk, r = .ok (.ret (.ref x)) ∧ s' = { s with heap := h', toks := tk } ∧ Kp s.heap h'
theorem isl_iter (X : (hd.heap_1 w.params).In s.heap) (T : Top topProg lg mean mg mb s.heap) (hroom : d ≤ 390) (hu : u ≤ 3000) :
    codeAny (model prg w) ⟨none, d, some [envL], gd, u⟩ (.call (.ref 57) ⟨[.ref x], []⟩) (RetIt x s) s := by
  refine' call_anyN (news := []) X T (Kp.refl _) (Nat.le_refl _) (fun q hq => nomatch hq) ?k6 ?k7 (by unfold recursionLimit; show d < 1000; omega) ?k9 ?kB ?_ ?c2 ?c3 ?c4 ?c5; (case k6 => k_is); (case k7 => k_is); (case k9 => exact BindsTo.of_eq rfl); (case c5 => decide); (case kB => exact locs rfl); (case c2 => exact rfl); (case c3 => exact rfl); (case c4 => exact rfl)
  intro L' h' hL F' N' k1 X' T'; (try dsimp only)
  k_fold
  k_steps
  exact ⟨_, _, rfl, rfl, F'.keep⟩
noncomputable def IslSt (dd a : Nat) : Nat → Obj → Prop
  | 0, o => IslObj dd (.ref a) 0 1 o
  | j + 1, o => IslObj dd (.ref a) ((j + 2 : Nat) : Int) ((j + 2 : Nat) : Int) o
noncomputable def drawnN : Nat → Nat
  | 0 => 0
  | j + 1 => j + 2
theorem IslSt.inst {j : Nat} {o : Obj} {h : Heap} (x : IslSt dd a j o) (hx : h.get? X = some o) (hdd : h.get? dd = some (dictOf [] 0)) : InstAt h X o 68 (some (dictOf [] 0)) := by
  have key : ∀ {c n : Int}, IslObj dd (.ref a) c n o → InstAt h X o 68 (some (dictOf [] 0)) := by
    rintro c n ⟨t0, t2, t3, t4, rfl⟩
    exact ⟨hx, rfl, rfl, hdd⟩
  cases j <;> exact key x
end
end Mine
namespace Mine
section
variable {prog : Program} {w : World} {A : Around} {E : Value → Shared → Prop} {s : Shared} {env : Env}
/-- what a for loop still has to do, once its source stands -/
noncomputable def ForAt (prog : Program) (w : World) (A : Around) (E : Value → Shared → Prop) (env : Env) (v : Str) (px : Pos) (body : List Stmt) (Q : Flow → Shared → Prop) (xv : Value) (s₁ : Shared) : Prop :=
  wpAny (model prog w) A (pyIter xv) (fun it s₂ => codeAny (model prog w) A (.forLoop (.Name v px) it body [] env) (fun r s' => match r with | .ok f => Q f s' | .error e => cameBackBy (model prog w) A env E e s') s₂) E s₁
theorem for_open {v : Str} {px pos : Pos} {iter : Expr} {body : List Stmt} {Q : Flow → Shared → Prop} (h : wpAny (model prog w) A (eval iter env) (ForAt prog w A E env v px body Q) E s) (hs : ∀ x, foldedSetIterable iter env x = pure x := by intro _; rfl) :
    wpAny (model prog w) A (exec (.For (.Name v px) iter body [] pos) env) Q E s :=
  wpAny_For (wpAny_mono h (fun _ _ h₁ => h₁) fun _ _ e => e) hs
noncomputable def ForFlow (Q : Flow → Shared → Prop) (J : Shared → Prop) (f : Flow) (s₃ : Shared) : Prop := match f with
  | .next => J s₃
  | .cont => J s₃
  | .brk => Q .next s₃
  | .ret v => Q (.ret v) s₃
theorem for_at {v : Str} {px : Pos} {body : List Stmt} {Q : Flow → Shared → Prop} {l I : Addr} {items : Array Value} (hI : I = s.heap.objs.size) (hh : A.handled = none) (hl : s.heap.IsList l items) (J : Nat → Shared → Prop)
    (hfr : ∀ i s' h' tk, J i s' → (∀ b o, b ≠ I → s'.heap.get? b = some o → h'.get? b = some o) → J i { s' with heap := h', toks := tk })
    (hJl : ∀ i s', J i s' → s'.heap.IsList l items) (h0 : J 0 s)
    (turn : ∀ i x s₁ oI, items[i]? = some x → J i s₁ → s₁.heap.get? I = some oI →
      wpAny (model prog w) A (storeName env v x) (fun _ s₂ => wpAny (model prog w) A (execs body env) (ForFlow Q fun s₃ => J (i + 1) s₃ ∧ s₃.heap.get? I = some oI) E s₂) E s₁)
    (done : ∀ s₁, J items.size s₁ → Q .next s₁) (hE : PassesOwn (model prog w) A env E := by passes_own) : ForAt prog w A E env v px body Q (.ref l) s := by
  subst hI
  obtain ⟨ol, hol, _⟩ := id hl
  have hne : l ≠ s.heap.objs.size := Nat.ne_of_lt (Heap.lt_size hol)
  refine wpAny_pyIter_list hl ?_
  have W := Walks.list (prog := prog) (w := w) hh s.heap.objs.size l hne items
  refine codeAny_forLoop (fun k s' => ∃ i, J i s' ∧ s'.heap.IsListIter s.heap.objs.size l i ∧ i ≤ items.size ∧ k = items.size + 1 - i) ?_ (items.size + 1)
    ⟨0, hfr 0 s _ s.toks h0 (fun b o _ e => Heap.get?_push_of_some _ e), ⟨_, Heap.get?_push_size _ rfl, rfl, rfl⟩, Nat.zero_le _, rfl⟩
  rintro k s' ⟨i, hJ, hIt, hi, rfl⟩
  refine wpAny_passesOwn hE ?_
  by_cases hlt : i < items.size
  · refine W.item i _ _ _ hlt ⟨hIt, hJl _ _ hJ⟩ fun x h' tk hx st hk => ?_
    obtain ⟨oI, hoI, hI2⟩ := st.1
    have hJ' := hfr i s' h' tk hJ fun b o hb e => hk b o (fun z => hb (List.mem_singleton.mp z)) e
    refine wpAny_passesOwn hE (wpAny_assign_Name (wpAny_mono (turn i x _ oI hx hJ' hoI) (fun _ s₂ h₂ => ?_) fun _ _ z => z))
    refine wpAny_passesOwn hE (wpAny_mono h₂ (fun f s₃ h₃ => ?_) fun _ _ z => z)
    cases f with
    | next => exact ⟨items.size + 1 - (i + 1), by omega, i + 1, h₃.1, ⟨oI, h₃.2, hI2⟩, hlt, rfl⟩
    | cont => exact ⟨items.size + 1 - (i + 1), by omega, i + 1, h₃.1, ⟨oI, h₃.2, hI2⟩, hlt, rfl⟩
    | brk => exact h₃
    | ret _ => exact h₃
  · obtain rfl : i = items.size := by omega
    refine W.done _ _ _ ⟨hIt, hJl _ _ hJ⟩ fun h' tk hk => ?_
    exact wpAny_execs_nil (done _ (hfr _ s' h' tk hJ fun b o hb e => hk b o (fun z => hb (List.mem_singleton.mp z)) e))
end
end Mine
namespace Mine
section
variable {prog : Program} {w : World} {A : Around} {R : Result → Shared → Prop} {E : Value → Shared → Prop} {s : Shared}
/-- the tests of a comprehension's clause, as the walk has them -/
noncomputable abbrev testsOf (ifs : List Expr) (env : Env) : Sem Bool := forIn ifs true fun c r => if r = true then do let ok ← isTrue c env (eval c env); pure (ForInStep.yield ok) else pure (ForInStep.yield r)
theorem comp_loop_inv {elt iter : Expr} {x : Str} {px : Pos} {ifs : List Expr} {scope : Scope} {pos : Pos} {I D l : Addr} {cenv : Env} {items : Array Value} (hh : A.handled = none) (hx : cenv.kindOf x = some .local)
    (hp : (cenv.scope.kind == .class || (cenv.scope.kind == .module && cenv.locals != cenv.globals)) = false) (hDC : D ≠ cenv.locals) (hID : I ≠ D) (hIC : I ≠ cenv.locals) (hlI : l ≠ I)
    (J : Nat → Array Value → Shared → Prop)
    (hfr : ∀ i acc s' h' tk, J i acc s' → (∀ b o, b ≠ I → b ≠ D → b ≠ cenv.locals → s'.heap.get? b = some o → h'.get? b = some o) → J i acc { s' with heap := h', toks := tk })
    (hJl : ∀ i acc s', J i acc s' → s'.heap.IsList l items) (h0 : J 0 #[] s) (hI : s.heap.IsListIter I l 0) (hD : s.heap.get? D = some (listOf #[] 0)) (hn : ∃ m, s.heap.Ns cenv.locals m)
    (turn : ∀ i v acc s₃ oI oD oC E', items[i]? = some v → J i acc s₃ → s₃.heap.get? I = some oI → s₃.heap.get? D = some oD → s₃.heap.get? cenv.locals = some oC → (∀ h : Heap, h.get? cenv.locals = some oC → ∃ m, h.Ns cenv.locals m ∧ m x = some v) →
      wpAny (model prog w) A (testsOf ifs cenv) (fun ok s₄ => if ok = true then wpAny (model prog w) A (eval elt cenv) (fun y s₅ => J (i + 1) (acc.push y) s₅ ∧ s₅.heap.get? I = some oI ∧ s₅.heap.get? D = some oD ∧ (∃ m, s₅.heap.Ns cenv.locals m)) E' s₄
        else (J (i + 1) acc s₄ ∧ s₄.heap.get? I = some oI ∧ s₄.heap.get? D = some oD ∧ (∃ m, s₄.heap.Ns cenv.locals m))) E' s₃)
    (hR : ∀ acc c s', J items.size acc s' → s'.heap.get? D = some (listOf acc c) → (∃ m, s'.heap.Ns cenv.locals m) → R (.ok .next) s') (hsz : items.size ≤ sizeLine) :
    codeAny (model prog w) A (.compLoop (.ListComp elt [⟨.Name x px, iter, ifs, 0⟩] scope pos) 0 (.ref I) (.ref D) cenv) R s := by
  have W := Walks.list (prog := prog) (w := w) hh I l hlI items
  refine codeAny_compLoop_tests (fun k s' => ∃ i acc c, J i acc s' ∧ s'.heap.IsListIter I l i ∧ s'.heap.get? D = some (listOf acc c) ∧ (∃ m, s'.heap.Ns cenv.locals m) ∧ acc.size ≤ i ∧ i ≤ items.size ∧ k = items.size + 1 - i) ?_ (items.size + 1)
    ⟨0, #[], 0, h0, hI, hD, hn, Nat.le_refl _, Nat.zero_le _, rfl⟩
  rintro k s' ⟨i, acc, c, hJ, hIt, hDa, ⟨m, hns⟩, hac, hi, rfl⟩
  by_cases hlt : i < items.size
  · refine W.item i _ _ _ hlt ⟨hIt, hJl _ _ _ hJ⟩ fun v h' tk hv st hk => ?_
    have hk' : ∀ b o, b ≠ I → s'.heap.get? b = some o → h'.get? b = some o := fun b o hb e => hk b o (fun z => hb (List.mem_singleton.mp z)) e
    have hns' : h'.Ns cenv.locals m := by obtain ⟨o, es, ep, e1, r⟩ := hns; exact ⟨o, es, ep, hk' _ _ hIC.symm e1, r⟩
    refine wpAny_assign_Name (wpAny_storeName_local hx hns' (fun h₂ hn₂ hs₂ => ?_) hp)
    obtain ⟨oI, hoI, hI2⟩ := st.1
    obtain ⟨oC, es, ep, hoC, hC2⟩ := hn₂
    have hJ₂ := hfr i acc s' h₂ (tk + 1) hJ fun b o q1 q2 q3 e => hs₂.extBut b o q3 (hk' b o q1 e)
    have hD₂ : h₂.get? D = some (listOf acc c) := hs₂.extBut _ _ hDC (hk' _ _ hID.symm hDa)
    have hI₂ : h₂.get? I = some oI := hs₂.extBut _ _ hIC hoI
    refine wpAny_mono (turn i v acc _ oI _ oC _ hv hJ₂ hI₂ hD₂ hoC (fun h e => ⟨_, ⟨oC, es, ep, e, hC2⟩, if_pos rfl⟩)) (fun ok s₄ h₄ => ?_) fun _ _ z => z
    by_cases hok : ok = true
    · rw [if_pos hok] at h₄ ⊢
      refine wpAny_mono h₄ (fun y s₅ h₅ => ?_) fun _ _ z => z
      obtain ⟨j5, i5, d5, m5, oC5, es5, ep5, c5, hC5⟩ := h₅
      refine append_at (hsz := by omega) d5 fun h₆ hs₆ ho₆ => ?_
      refine ⟨items.size + 1 - (i + 1), by omega, i + 1, acc.push y, c + 1, hfr _ _ s₅ h₆ s₅.toks j5 (fun b o q1 q2 q3 e => hs₆.extBut b o q2 e), ⟨oI, hs₆.extBut _ _ hID i5, hI2⟩, ho₆, ⟨m5, oC5, es5, ep5, hs₆.extBut _ _ hDC.symm c5, hC5⟩, ?_, hlt, rfl⟩
      rw [Array.size_push]; omega
    · rw [if_neg hok] at h₄ ⊢
      obtain ⟨j5, i5, d5, c5⟩ := h₄
      exact ⟨items.size + 1 - (i + 1), by omega, i + 1, acc, c, j5, ⟨oI, i5, hI2⟩, d5, c5, by omega, hlt, rfl⟩
  · obtain rfl : i = items.size := by omega
    refine W.done _ _ _ ⟨hIt, hJl _ _ _ hJ⟩ fun h' tk hk => ?_
    have hk' : ∀ b o, b ≠ I → s'.heap.get? b = some o → h'.get? b = some o := fun b o hb e => hk b o (fun z => hb (List.mem_singleton.mp z)) e
    refine hR acc c _ (hfr _ _ s' h' tk hJ fun b o q1 q2 q3 e => hk' b o q1 e) (hk' _ _ hID.symm hDa) ⟨m, ?_⟩
    obtain ⟨o, es, ep, e1, r⟩ := hns
    exact ⟨o, es, ep, hk' _ _ hIC.symm e1, r⟩
variable {env : Env}
theorem comp_block_inv {elt iter : Expr} {x : Str} {px : Pos} {ifs : List Expr} {scope : Scope} {cl : List (Str × Addr)} {pos : Pos} {s₂ : Shared} {I l D C : Addr} {items : Array Value} {RR : Value → Addr → Result → Shared → Prop} (hDD : D = s₂.heap.objs.size) (hCC : C = s₂.heap.objs.size + 1) (hh : A.handled = none)
    (hcell : ∀ y ∈ scope.names, y.2 ≠ .cell) (hkind : scope.kind = .function) (hx : scope.names.lookup x = some .local) (hI : s₂.heap.IsListIter I l 0) (hl : s₂.heap.IsList l items) (hlI : l ≠ I)
    (J : Nat → Array Value → Shared → Prop)
    (hfr : ∀ i acc s' h' tk, J i acc s' → (∀ b o, b ≠ I → b ≠ D → b ≠ C → s'.heap.get? b = some o → h'.get? b = some o) → J i acc { s' with heap := h', toks := tk })
    (hJl : ∀ i acc s', J i acc s' → s'.heap.IsList l items) (h0 : J 0 #[] s₂)
    (turn : ∀ i v acc s₃ oI oD oC E', items[i]? = some v → J i acc s₃ → s₃.heap.get? I = some oI → s₃.heap.get? D = some oD → s₃.heap.get? C = some oC → (∀ h : Heap, h.get? C = some oC → ∃ m, h.Ns C m ∧ m x = some v) →
      wpAny (model prog w) A (testsOf ifs (compEnvC scope cl C env)) (fun ok s₄ => if ok = true then wpAny (model prog w) A (eval elt (compEnvC scope cl C env)) (fun y s₅ => J (i + 1) (acc.push y) s₅ ∧ s₅.heap.get? I = some oI ∧ s₅.heap.get? D = some oD ∧ (∃ m, s₅.heap.Ns C m)) E' s₄
        else (J (i + 1) acc s₄ ∧ s₄.heap.get? I = some oI ∧ s₄.heap.get? D = some oD ∧ (∃ m, s₄.heap.Ns C m))) E' s₃)
    (hRR : ∀ acc c s', J items.size acc s' → s'.heap.get? D = some (listOf acc c) → (∃ m, s'.heap.Ns C m) → RR (.ref D) C (.ok .next) s') (hsz : items.size ≤ sizeLine) :
    wpAny (model prog w) A (newList []) (fun acc s₃ => wpAny (model prog w) A (newFunctionEnv scope env.globals cl [] env.qual none .none (some env)) (fun cenv s₄ =>
      codeAny (model prog w) A (.compStart (.ListComp elt [⟨.Name x px, iter, ifs, 0⟩] scope pos) 0 (.ref I) acc { cenv with scope := relabel scope env }) (RR acc cenv.locals) s₄) E s₃) E s₂ := by
  refine wpAny_newObj_type (wpAny_newFunctionEnv hcell (by intro y hy; simp at hy) (fun h₁ hns₁ hsb₁ => ?_) hkind)
  dsimp only at hns₁ hsb₁ ⊢
  generalize hH2 : s₂.heap.push { cls := .type "list", dict := none, data := .seq ([] : List Value).toArray } = H2 at hns₁ hsb₁ ⊢
  have hC : H2.objs.size = s₂.heap.objs.size + 1 := by rw [← hH2, Heap.size_push]
  rw [hC, ← hCC] at hns₁ hsb₁ ⊢
  have hDC : D ≠ C := by rw [hDD, hCC]; exact Nat.ne_of_lt (Nat.lt_succ_self _)
  have below : ∀ b, b < s₂.heap.objs.size → b ≠ C ∧ b ≠ D := fun b hb => ⟨by rw [hCC]; exact Nat.ne_of_lt (Nat.lt_succ_of_lt hb), by rw [hDD]; exact Nat.ne_of_lt hb⟩
  have old : ∀ b o, s₂.heap.get? b = some o → h₁.get? b = some o := fun b o e => hsb₁.extBut b o (below b (Heap.lt_size e)).1 (Heap.get?_push_of_some _ (hH2 ▸ Heap.get?_push_of_some _ e))
  have hacc : h₁.get? D = some (listOf #[] 0) := by
    rw [hDD]; exact hsb₁.extBut _ _ (hDD ▸ hDC) (Heap.get?_push_of_some _ (hH2 ▸ Heap.get?_push_size _ rfl))
  have hIlt : I < s₂.heap.objs.size := by obtain ⟨o, e, _⟩ := hI; exact Heap.lt_size e
  have loop : ∀ s₃ : Shared, s₃ = { s₂ with heap := h₁, toks := s₂.toks + ([] : List (Str × Value)).length } →
      codeAny (model prog w) A (.compLoop (.ListComp elt [⟨.Name x px, iter, ifs, 0⟩] scope pos) 0 (.ref I) (.ref D) (compEnvC scope cl C env)) (RR (.ref D) C) s₃ := by
    rintro s₃ rfl
    refine comp_loop_inv (cenv := compEnvC scope cl C env) hh (lookup_relabel_local hx) (by simp [compEnvC, relabel, hkind]) hDC (below I hIlt).2 (below I hIlt).1 hlI J hfr hJl (hfr _ _ _ _ _ h0 fun b o _ _ _ e => old b o e) ?_ hacc ⟨_, hns₁⟩ turn hRR hsz
    obtain ⟨o, e, r⟩ := hI
    exact ⟨o, old _ _ e, r⟩
  rw [← hDD]
  refine codeAny_compStart_list (loop _ rfl) (wpAny_pyIter_listiter (l := l) (i := 0) ?_ (loop _ rfl))
  obtain ⟨o, e, r⟩ := hI
  exact ⟨o, old _ _ e, r⟩
/-- what a comprehension still has to do, once its source stands -/
noncomputable def CompSt (prog : Program) (w : World) (A : Around) (E : Value → Shared → Prop) (env : Env) (elt iter : Expr) (x : Str) (px : Pos) (ifs : List Expr) (scope : Scope) (cl : List (Str × Addr)) (pos : Pos) (use : Option (Value → Sem Unit)) (Q : Value → Shared → Prop) (xv : Value) (s₁ : Shared) : Prop :=
  wpAny (model prog w) A (pyIter xv) (fun it s₂ => wpAny (model prog w) A (newList []) (fun acc s₃ => wpAny (model prog w) A (newFunctionEnv scope env.globals cl [] env.qual none .none (some env)) (fun cenv s₄ =>
      codeAny (model prog w) A (.compStart (.ListComp elt [⟨.Name x px, iter, ifs, 0⟩] scope pos) 0 it acc { cenv with scope := relabel scope env }) (compPost (model prog w) A E use Q acc cenv.locals) s₄) E s₃) E s₂) E s₁
theorem comp_eval {elt iter : Expr} {x : Str} {px : Pos} {ifs : List Expr} {scope : Scope} {cl : List (Str × Addr)} {pos : Pos} {Q : Value → Shared → Prop} (hclos : closureFor scope env = pure cl) (hkind : scope.kind = .function)
    (hnames : ∀ y ∈ scope.names, y.2 = .local → scope.names.lookup y.1 = some .local) (h : wpAny (model prog w) A (eval iter env) (CompSt prog w A E env elt iter x px ifs scope cl pos none Q) E s)
    (hs : ∀ x, foldedSetIterable iter env x = pure x := by intro _; rfl) : wpAny (model prog w) A (eval (.ListComp elt [⟨.Name x px, iter, ifs, 0⟩] scope pos) env) Q E s := by
  rw [eval_ListComp]
  exact wpAny_comprehension_free (use := none) rfl hs hclos hkind hnames (wpAny_mono h (fun xv s₁ h₁ => h₁) fun _ _ e => e)
theorem comp_at {elt iter : Expr} {x : Str} {px : Pos} {ifs : List Expr} {scope : Scope} {cl : List (Str × Addr)} {pos : Pos} {use : Option (Value → Sem Unit)} {Q : Value → Shared → Prop} {l I D C : Addr} {items : Array Value}
    (hII : I = s.heap.objs.size) (hDD : D = s.heap.objs.size + 1) (hCC : C = s.heap.objs.size + 2) (hh : A.handled = none)
    (hcell : ∀ y ∈ scope.names, y.2 ≠ .cell) (hkind : scope.kind = .function) (hx : scope.names.lookup x = some .local) (hl : s.heap.IsList l items)
    (J : Nat → Array Value → Shared → Prop)
    (hfr : ∀ i acc s' h' tk, J i acc s' → (∀ b o, b ≠ I → b ≠ D → b ≠ C → s'.heap.get? b = some o → h'.get? b = some o) → J i acc { s' with heap := h', toks := tk })
    (hJl : ∀ i acc s', J i acc s' → s'.heap.IsList l items) (h0 : J 0 #[] s)
    (turn : ∀ i v acc s₃ oI oD oC E', items[i]? = some v → J i acc s₃ → s₃.heap.get? I = some oI → s₃.heap.get? D = some oD → s₃.heap.get? C = some oC → (∀ h : Heap, h.get? C = some oC → ∃ m, h.Ns C m ∧ m x = some v) →
      wpAny (model prog w) A (testsOf ifs (compEnvC scope cl C env)) (fun ok s₄ => if ok = true then wpAny (model prog w) A (eval elt (compEnvC scope cl C env)) (fun y s₅ => J (i + 1) (acc.push y) s₅ ∧ s₅.heap.get? I = some oI ∧ s₅.heap.get? D = some oD ∧ (∃ m, s₅.heap.Ns C m)) E' s₄
        else (J (i + 1) acc s₄ ∧ s₄.heap.get? I = some oI ∧ s₄.heap.get? D = some oD ∧ (∃ m, s₄.heap.Ns C m))) E' s₃)
    (hQ : ∀ acc c s', J items.size acc s' → s'.heap.get? D = some (listOf acc c) → (∃ m, s'.heap.Ns C m) → compPost (model prog w) A E use Q (.ref D) C (.ok .next) s') (hsz : items.size ≤ sizeLine) :
    CompSt prog w A E env elt iter x px ifs scope cl pos use Q (.ref l) s := by
  obtain ⟨ol, hol, _⟩ := id hl
  have hne : l ≠ I := by rw [hII]; exact Nat.ne_of_lt (Heap.lt_size hol)
  refine wpAny_pyIter_list hl ?_
  rw [← hII]
  refine comp_block_inv (I := I) (l := l) (D := D) (C := C) (items := items) (by rw [hDD]; simp [Heap.size_push]) (by rw [hCC]; simp [Heap.size_push]) hh hcell hkind hx ⟨_, by rw [hII]; exact Heap.get?_push_size _ rfl, rfl, rfl⟩ (hl.at fun o e => Heap.get?_push_of_some _ e) hne J hfr hJl
    (hfr _ _ s _ s.toks h0 fun b o _ _ _ e => Heap.get?_push_of_some _ e) turn hQ hsz
end
end Mine
namespace Mine
section
variable {prog : Program} {w : World} {A : Around} {E : Value → Shared → Prop} {s : Shared} {env : Env}
/-- a for loop over any iterator that stands at I alone -/
theorem for_walks {v : Str} {px : Pos} {body : List Stmt} {Q : Flow → Shared → Prop} {I : Addr} {n : Nat} {P : Nat → Value → Prop} {St : Nat → Heap → Prop} (W : Walks prog w A I [I] [I] n P St) (hex : ∀ i h, St i h → ∃ o, h.get? I = some o)
    (J : Nat → Shared → Prop)
    (hfr : ∀ i s' h' tk, J i s' → (∀ b o, b ≠ I → s'.heap.get? b = some o → h'.get? b = some o) → J i { s' with heap := h', toks := tk })
    (h0 : J 0 s) (hst : St 0 s.heap)
    (turn : ∀ i x s₁ oI, i < n → P i x → J i s₁ → s₁.heap.get? I = some oI →
      wpAny (model prog w) A (storeName env v x) (fun _ s₂ => wpAny (model prog w) A (execs body env) (ForFlow Q fun s₃ => J (i + 1) s₃ ∧ s₃.heap.get? I = some oI) E s₂) E s₁)
    (done : ∀ s₁, J n s₁ → Q .next s₁) (hE : PassesOwn (model prog w) A env E := by passes_own) :
    codeAny (model prog w) A (.forLoop (.Name v px) (.ref I) body [] env) (fun r s' => match r with | .ok f => Q f s' | .error e => cameBackBy (model prog w) A env E e s') s := by
  refine codeAny_forLoop (fun k s' => ∃ i, J i s' ∧ St i s'.heap ∧ i ≤ n ∧ k = n + 1 - i) ?_ (n + 1) ⟨0, h0, hst, Nat.zero_le _, rfl⟩
  rintro k s' ⟨i, hJ, hS, hi, rfl⟩
  refine wpAny_passesOwn hE ?_
  by_cases hlt : i < n
  · refine W.item i _ _ _ hlt hS fun x h' tk hx st hk => ?_
    obtain ⟨oI, hoI⟩ := hex _ _ st
    have hJ' := hfr i s' h' tk hJ fun b o hb e => hk b o (fun z => hb (List.mem_singleton.mp z)) e
    refine wpAny_passesOwn hE (wpAny_assign_Name (wpAny_mono (turn i x _ oI hlt hx hJ' hoI) (fun _ s₂ h₂ => ?_) fun _ _ z => z))
    refine wpAny_passesOwn hE (wpAny_mono h₂ (fun f s₃ h₃ => ?_) fun _ _ z => z)
    have keep : s₃.heap.get? I = some oI → St (i + 1) s₃.heap := fun h3 => W.frame _ _ _ st fun b hb o e => by
      rw [List.mem_singleton.mp hb] at e ⊢
      rw [hoI] at e; cases e; exact h3
    cases f with
    | next => exact ⟨n + 1 - (i + 1), by omega, i + 1, h₃.1, keep h₃.2, hlt, rfl⟩
    | cont => exact ⟨n + 1 - (i + 1), by omega, i + 1, h₃.1, keep h₃.2, hlt, rfl⟩
    | brk => exact h₃
    | ret _ => exact h₃
  · obtain rfl : i = n := by omega
    refine W.done _ _ _ hS fun h' tk hk => ?_
    exact wpAny_execs_nil (done _ (hfr _ s' h' tk hJ fun b o hb e => hk b o (fun z => hb (List.mem_singleton.mp z)) e))
end
end Mine
namespace Mine
/-- the texts of a list -/
noncomputable def TblS (its : List Value) (n : Nat) (T : Nat → Str) : Prop := its.length = n ∧ ∀ i, i < n → ∃ t, its[i]? = some (.str (T i) t)
noncomputable def TblI (its : List Value) (n : Nat) (U : Nat → Nat) : Prop := its.length = n ∧ ∀ i, i < n → ∃ t, its[i]? = some (.int (U i : Nat) t)
/-- the outline -/
structure TreeOk (n : Nat) (T : Nat → Str) (U D : Nat → Nat) : Prop where
  pos : 0 < n
  root : T 0 = ⟨#[]⟩ ∧ U 0 = 0 ∧ D 0 = 0
  node : ∀ i, 0 < i → i < n → U i < i ∧ D i = D (U i) + 1 ∧ D i ≤ 16 ∧ ∃ (k : Int) (e : Str), goodEl e = true ∧ 0 ≤ k ∧ k ≤ 3 ∧ (U i = 0 ∨ 1 ≤ k) ∧ T i = T (U i) ++ Txt.mul (Str.ofString "/") k ++ e
  inj : ∀ i j, i < n → j < n → T i = T j → i = j
noncomputable def Places (kvs : List (Str × Value)) (n : Nat) (T : Nat → Str) : Prop :=
  (∀ i, 0 < i → i < n → ∃ t, valueAt kvs (T i) = some (.int (i : Nat) t)) ∧ (∀ x v, valueAt kvs x = some v → ∃ i t, 0 < i ∧ i < n ∧ T i = x ∧ v = .int (i : Nat) t) ∧ kvs.length ≤ n
noncomputable def NewT (n : Nat) (T : Nat → Str) (D : Nat → Nat) (v : Int) (x : Str) : Prop := 0 ≤ v ∧ v.toNat < n ∧ D v.toNat + 1 ≤ 16 ∧ ∃ (k : Int) (e : Str), goodEl e = true ∧ 0 ≤ k ∧ k ≤ 3 ∧ (v.toNat = 0 ∨ 1 ≤ k) ∧ x = T v.toNat ++ Txt.mul (Str.ofString "/") k ++ e
theorem TreeOk.d16 {n : Nat} {T : Nat → Str} {U D : Nat → Nat} (h : TreeOk n T U D) {i : Nat} (hi : i < n) : D i ≤ 16 := by
  rcases Nat.eq_zero_or_pos i with rfl | z
  · rw [h.root.2.2]; omega
  · exact (h.node i z hi).2.2.1
theorem valueAt_stored_self {K : Type} [DecidableEq K] (kvs : List (K × Value)) (k : K) (v : Value) : valueAt (stored kvs k v) k = some v := by
  unfold stored
  by_cases h : kvs.any (fun kv => kv.1 = k) = true
  · rw [if_pos h]
    induction kvs with
    | nil => simp at h
    | cons p r ih =>
      simp only [List.map_cons]
      by_cases hp : p.1 = k
      · simp [valueAt, hp]
      · have h' : r.any (fun kv => kv.1 = k) = true := by simpa [hp] using h
        have := ih h'
        unfold valueAt at this ⊢
        rw [if_neg hp, List.find?_cons]
        simpa [hp] using this
  · rw [if_neg h]
    unfold valueAt
    have h0 : ∀ p ∈ kvs, ¬ p.1 = k := fun p hp e => h (List.any_eq_true.mpr ⟨p, hp, by simpa using e⟩)
    rw [List.find?_append, List.find?_eq_none.mpr (fun p hp => by simpa using h0 p hp)]
    simp
section
variable {prog : Program} {w : World} {A : Around} {E : Value → Shared → Prop} {s : Shared} {h₀ : Heap} {L l : Addr} {m : Str → Option Value} {news : List (Addr × Obj)} {its : List Value} {c n : Nat} {i : Int} {u : Tok}
theorem subI {U : Nat → Nat} {value slice : Expr} {Q : Value → Shared → Prop} (N : News h₀ L s.heap news) (hm : (l, listOf (List.toArray its) c) ∈ news) (tb : TblI its n U) (h0 : 0 ≤ i) (hi : i.toNat < n) (hn : n ≤ 100) (h : ∀ t, Q (.int (U i.toNat : Nat) t) s)
    (hs : subscripted slice false (.ref l) (.int i u) = operate [.ref l, .int i u] (getItem (.ref l) (.int i u))) : wpAny (model prog w) A (subscriptTail value slice (.ref l) (.int i u)) Q E s := by
  obtain ⟨t, ht⟩ := tb.2 _ hi
  exact item_litK (vs := its) ⟨_, (N _ hm).1, rfl, _, rfl⟩ h0 (by omega) ht (h t) hs
theorem subS {T : Nat → Str} {value slice : Expr} {Q : Value → Shared → Prop} (N : News h₀ L s.heap news) (hm : (l, listOf (List.toArray its) c) ∈ news) (tb : TblS its n T) (h0 : 0 ≤ i) (hi : i.toNat < n) (hn : n ≤ 100) (h : ∀ t, Q (.str (T i.toNat) t) s)
    (hs : subscripted slice false (.ref l) (.int i u) = operate [.ref l, .int i u] (getItem (.ref l) (.int i u))) : wpAny (model prog w) A (subscriptTail value slice (.ref l) (.int i u)) Q E s := by
  obtain ⟨t, ht⟩ := tb.2 _ hi
  exact item_litK (vs := its) ⟨_, (N _ hm).1, rfl, _, rfl⟩ h0 (by omega) ht (h t) hs
theorem lenS {T : Nat → Str} {Q : Value → Shared → Prop} (N : News h₀ L s.heap news) (hm : (l, listOf (List.toArray its) c) ∈ news) (tb : TblS its n T) (hn : n ≤ 100) (h : ∀ t t', Q (.int (n : Nat) t) { s with toks := t' }) : wpAny (model prog w) A (call (.builtin "len") [.ref l]) Q E s := by
  have e : (List.toArray its).size = n := by simpa using tb.1
  refine call_len_list (items := List.toArray its) ⟨_, (N _ hm).1, rfl, _, rfl⟩ (by rw [e]; omega) ?_
  rw [e]
  exact h _ _
theorem notinD {d : Addr} {o : Obj} {kvs : List (Str × Value)} {x : Str} {Q : Value → Shared → Prop} (N : News h₀ L s.heap news) (hp : (d, o) ∈ news) (hd : o.IsDictOf (strKind prog w) kvs) (lo : (d == sysModules) = false)
    (h1 : valueAt kvs x = none → Q (.bool true) { s with toks := s.toks + 1 }) (h2 : ∀ v, valueAt kvs x = some v → Q (.bool false) { s with toks := s.toks + 1 }) : wpAny (model prog w) A (compareOp .NotIn (.str x u) (.ref d)) Q E s := by
  refine wpAny_notIn_of (k := x) (strKind_is _ _ _ _) lo (kda_dict N hp hd).mapOf ?_
  cases e : valueAt kvs x with
  | none => exact h1 e
  | some v => exact h2 v e
theorem getD {d : Addr} {o : Obj} {kvs : List (Str × Value)} {x : Str} {v : Value} {value slice : Expr} {Q : Value → Shared → Prop} (N : News h₀ L s.heap news) (hp : (d, o) ∈ news) (hd : o.IsDictOf (strKind prog w) kvs) (hl : valueAt kvs x = some v) (h : Q v { s with toks := s.toks + 1 })
    (hs : subscripted slice false (.ref d) (.str x u) = operate [.ref d, .str x u] (getItem (.ref d) (.str x u))) (hg : ∀ r, letTemporaryGo value (.ref d) r = pure ()) :
    wpAny (model prog w) A (subscriptTail value slice (.ref d) (.str x u)) Q E s := kda_item N hp hd (strKind_is _ _ _ _) hl h hs hg
end
theorem setDS {prog : Program} {w : World} {A : Around} {E : Value → Shared → Prop} {s : Shared} {h₀ : Heap} {L d : Addr} {m : Str → Option Value} {news : List (Addr × Obj)} {g : Obj → List (Addr × Obj)} {o : Obj} {kvs : List (Str × Value)} {k : Str} {t : Tok} {v : Value} {Q : Unit → Shared → Prop}
    (F : Fr h₀ L s.heap m) (N : News h₀ L s.heap news) (U : UpdF d o news g) (hd : o.IsDictOf (PySem.strKind prog w) kvs) (hsz : kvs.length ≤ sizeLine)
    (h : ∀ h' o', Fr h₀ L h' m → News h₀ L h' (g o') → o'.IsDictOf (PySem.strKind prog w) (stored kvs k v) → Q () { s with heap := h', toks := s.toks + 1 }) : wpAny (model prog w) A (setItem (.ref d) (.str k t) v) Q E s :=
  kda_set (knd := PySem.strKind prog w) F N U hd (strKind_is _ _ _ _) hsz h
theorem el_use {w : World} {s : Shared} {mg mb : Str → Option Value} {d u : Nat} {gd : Option (List Code)} {fr : Option (List Env)} {E : Value → Shared → Prop} {h₀ : Heap} {L : Addr} {m : Str → Option Value} {news : List (Addr × Obj)} {mean : ExcName → Option Value} {Q : Value → Shared → Prop} (X : (hd.heap_1 w.params).In h₀) (T : Top topProg lg mean mg mb h₀)
    (F : Fr h₀ L s.heap m) (N : News h₀ L s.heap news) (hroom : d < 590) {n : Int} {t : Tok}
    (h : ∀ x t' h' tk', goodEl x = true → Fr h₀ L h' m → News h₀ L h' news → Q (.str x t') { s with heap := h', toks := tk' }) :
    wpAny (model prg w) ⟨none, d, fr, gd, u⟩ (call (.ref 162) [.int n t]) Q E s :=
  use_ret (el_any ⟨X.keeps F.keep, (topRead_of T).keeps F.keep⟩ (by omega)) F N fun v h' tk p k F' N' => by obtain ⟨x, t', rfl, hx⟩ := p; exact h _ _ _ _ hx F' N'
noncomputable def ShortT (n : Nat) (T : Nat → Str) : Prop := ∀ i, i < n → (T i).length ≤ 112
theorem ShortT.use {n : Nat} {T : Nat → Str} {i : Nat} (h : ShortT n T) (hi : i < n) : (T i).length ≤ 120 := Nat.le_trans (h i hi) (by omega)
theorem good_len {x : Str} (h : goodEl x = true) : x.length ≤ 120 := by
  unfold goodEl at h
  simp only [Bool.and_eq_true, decide_eq_true_eq] at h
  show x.cps.size ≤ 120
  omega
theorem mul_len {n : Int} (h : n ≤ 3) : (Txt.mul (Str.ofString "/") n).length ≤ 120 := Nat.le_trans (len_mul_one (c := 47) (N := 3) (by decide +kernel) h) (by omega)
theorem add_len {x y : Str} {a b : Nat} (h : x.length ≤ a) (k : y.length ≤ b) : (x ++ y).length ≤ a + b := by rw [Str.length_append]; omega
open Lean in
def tm1 : MacroM Syntax := `(tactic| (k_here; k_dflt (refine' SB.mul (mulOk_of 16 1048576 ?a ?b ?c ?d ?e) ?_; (case a => decide +kernel); (case b => omega); (case c => omega); (case d => decide); (case e => decide)); intro tM tN))
local macro_rules | `(tactic| walk_at "binaryOp Mult str int") => tm1
local macro_rules | `(tactic| walk_at "binaryOp Add str str") => rulx none `KXadd.add "XXD_" 3 'n' `(tactic| (first | first | (first | exact ShortT.use (by with_reducible assumption) (by omega) | exact good_len (by with_reducible assumption) | exact mul_len (by omega)) | exact add_len (by (first | exact ShortT.use (by with_reducible assumption) (by omega) | exact good_len (by with_reducible assumption) | exact mul_len (by omega))) (by (first | exact ShortT.use (by with_reducible assumption) (by omega) | exact good_len (by with_reducible assumption) | exact mul_len (by omega))) | first | exact ShortT.use (by with_reducible assumption) (by omega) | exact good_len (by with_reducible assumption) | exact mul_len (by omega)))
local macro_rules | `(tactic| walk_at "subscriptTail") => rul (qsub `PySem.Value.int) `subI "AMAOOO_S!" 1 'n'
local macro_rules | `(tactic| walk_at "subscriptTail") => rul (qsub `PySem.Value.int) `subS "AMAOOO_S!" 1 'n'
local macro_rules | `(tactic| walk_at "subscriptTail") => rul (qsub `PySem.Value.str) `getD "AMAA_SG!" 0 'n'
local macro_rules | `(tactic| walk_at "call builtin:len") => rul (qcall `PySem.Value.builtin (qs "len") "r") `lenS "AMAO_!" 2 'n'
local macro_rules | `(tactic| walk_at "compareOp NotIn str ref") => rul none `notinD "AMAA__" 0 'i'
local macro_rules | `(tactic| walk_at "subscriptTail") => rulx (qsub `PySem.Value.str) `getD "AMAX_SG!" 0 'n' `(tactic| exact valueAt_stored_self _ _ _)
local macro_rules | `(tactic| walk_at "setItem ref str") => rulx none `setDS "KKXAX_" 5 't' `(tactic| (first | k_updF | (rw [sizeLine_eq]; omega)))
/-- one more -/
noncomputable def upd {α : Type} (f : Nat → α) (n : Nat) (a : α) : Nat → α := fun i => if i = n then a else f i
theorem upd_old {α : Type} {f : Nat → α} {n i : Nat} {a : α} (h : i < n) : upd f n a i = f i := if_neg (by omega)
theorem upd_new {α : Type} {f : Nat → α} {n : Nat} {a : α} : upd f n a n = a := if_pos rfl
theorem TblS.snoc {tv : List Value} {n : Nat} {T : Nat → Str} {x : Str} {t : Tok} (h : TblS tv n T) : TblS (tv ++ [.str x t]) (n + 1) (upd T n x) := by
  refine ⟨by rw [List.length_append, h.1]; rfl, fun i hi => ?_⟩
  by_cases e : i < n
  · obtain ⟨t', ht⟩ := h.2 i e
    exact ⟨t', by rw [List.getElem?_append_left (by rw [h.1]; exact e), upd_old e]; exact ht⟩
  · obtain rfl : i = n := by omega
    exact ⟨t, by rw [List.getElem?_append_right (by rw [h.1]; exact Nat.le_refl _), h.1, upd_new]; simp⟩
theorem TblI.snoc {tv : List Value} {n : Nat} {U : Nat → Nat} {v : Int} {m : Nat} {t : Tok} (h : TblI tv n U) (hv : v = (m : Nat)) : TblI (tv ++ [.int v t]) (n + 1) (upd U n m) := by
  subst hv
  refine ⟨by rw [List.length_append, h.1]; rfl, fun i hi => ?_⟩
  by_cases e : i < n
  · obtain ⟨t', ht⟩ := h.2 i e
    exact ⟨t', by rw [List.getElem?_append_left (by rw [h.1]; exact e), upd_old e]; exact ht⟩
  · obtain rfl : i = n := by omega
    exact ⟨t, by rw [List.getElem?_append_right (by rw [h.1]; exact Nat.le_refl _), h.1, upd_new]; simp⟩
theorem valueAt_snoc {K : Type} [DecidableEq K] (kvs : List (K × Value)) (k y : K) (v : Value) (h : valueAt kvs k = none) : valueAt (stored kvs k v) y = if y = k then some v else valueAt kvs y := by
  by_cases e : y = k
  · rw [if_pos e, e]; exact valueAt_stored_self _ _ _
  · rw [if_neg e, stored_absent h]
    unfold valueAt
    rw [List.find?_append]
    cases q : List.find? (fun kv => decide (kv.1 = y)) kvs with
    | some p => simp
    | none => simp [Ne.symm e]
theorem Places.snoc {kvs : List (Str × Value)} {n : Nat} {T : Nat → Str} {x : Str} {t : Tok} (h : Places kvs n T) (hn : 0 < n) (hx : valueAt kvs x = none) : Places (stored kvs x (.int (n : Nat) t)) (n + 1) (upd T n x) := by
  have hne : ∀ i, 0 < i → i < n → T i ≠ x := fun i h1 h2 e => by obtain ⟨t', ht⟩ := h.1 i h1 h2; rw [e, hx] at ht; cases ht
  refine ⟨fun i h1 h2 => ?_, fun y v hy => ?_, ?_⟩
  · by_cases e : i < n
    · obtain ⟨t', ht⟩ := h.1 i h1 e
      exact ⟨t', by rw [upd_old e, valueAt_snoc _ _ _ _ hx, if_neg (hne i h1 e)]; exact ht⟩
    · obtain rfl : i = n := by omega
      exact ⟨t, by rw [upd_new, valueAt_snoc _ _ _ _ hx, if_pos rfl]⟩
  · rw [valueAt_snoc _ _ _ _ hx] at hy
    by_cases e : y = x
    · rw [if_pos e] at hy; cases hy
      exact ⟨n, t, hn, by omega, by rw [upd_new, e], rfl⟩
    · rw [if_neg e] at hy
      obtain ⟨i, t', a, b, c, r⟩ := h.2.1 y v hy
      exact ⟨i, t', a, by omega, by rw [upd_old b, c], r⟩
  · rw [stored_absent hx, List.length_append]
    have := h.2.2
    simp; omega
theorem TreeOk.snoc {n : Nat} {T : Nat → Str} {U D : Nat → Nat} {v : Int} {x : Str} (h : TreeOk n T U D) (hx : NewT n T D v x) (hne : ∀ i, 0 < i → i < n → T i ≠ x) : TreeOk (n + 1) (upd T n x) (upd U n v.toNat) (upd D n (D v.toNat + 1)) := by
  obtain ⟨v0, vn, vd, k, e, he, k0, k3, k1, rfl⟩ := hx
  have hp := h.pos
  have hx0 : T 0 ≠ T v.toNat ++ Txt.mul (Str.ofString "/") k ++ e := fun z => by
    have z2 := congrArg (fun s : Str => s.cps.size) z
    rw [h.root.1] at z2
    unfold goodEl at he
    simp only [Bool.and_eq_true, decide_eq_true_eq] at he
    simp only [Str.cps_append, Array.size_append] at z2
    simp at z2
    omega
  have hne' : ∀ i, i < n → T i ≠ T v.toNat ++ Txt.mul (Str.ofString "/") k ++ e := fun i hi => by
    rcases Nat.eq_zero_or_pos i with rfl | z
    · exact hx0
    · exact hne i z hi
  refine ⟨by omega, ?_, fun i h1 h2 => ?_, fun i j hi hj hij => ?_⟩
  · rw [upd_old hp, upd_old hp, upd_old hp]; exact h.root
  · by_cases q : i < n
    · obtain ⟨a, b, c, k', e', r1, r2, r3, r4, r5⟩ := h.node i h1 q
      rw [upd_old q, upd_old q, upd_old q, upd_old (by omega), upd_old (by omega)]
      exact ⟨a, b, c, k', e', r1, r2, r3, r4, r5⟩
    · obtain rfl : i = n := by omega
      rw [upd_new, upd_new, upd_new, upd_old vn, upd_old vn]
      exact ⟨vn, rfl, vd, k, e, he, k0, k3, k1, rfl⟩
  · by_cases qi : i < n
    · by_cases qj : j < n
      · rw [upd_old qi, upd_old qj] at hij; exact h.inj i j qi qj hij
      · obtain rfl : j = n := by omega
        rw [upd_old qi, upd_new] at hij
        exact absurd hij (hne' i qi)
    · obtain rfl : i = n := by omega
      by_cases qj : j < i
      · rw [upd_old qj, upd_new] at hij
        exact absurd hij.symm (hne' j qj)
      · omega
theorem TreeOk.short {n : Nat} {T : Nat → Str} {U D : Nat → Nat} (h : TreeOk n T U D) : ShortT n T := by
  have key : ∀ i, i < n → (T i).length ≤ 6 * D i := by
    intro i
    induction i using Nat.strongRecOn with
    | ind i ih =>
      intro hi
      rcases Nat.eq_zero_or_pos i with rfl | z
      · rw [h.root.1]; show 0 ≤ _; omega
      · obtain ⟨a, b, c, k, e, he, k0, k3, k1, r⟩ := h.node i z hi
        have h1 := ih (U i) a (by omega)
        have h2 : (Txt.mul (Str.ofString "/") k).length ≤ 3 := len_mul_one (c := 47) (N := 3) (by decide +kernel) k3
        have h3 : e.length ≤ 3 := by
          unfold goodEl at he
          simp only [Bool.and_eq_true, decide_eq_true_eq] at he
          show e.cps.size ≤ 3
          omega
        rw [r, Str.length_append, Str.length_append, b]
        omega
  intro i hi
  have h1 := key i hi
  have h2 := h.d16 hi
  omega
local macro_rules | `(tactic| size_fits) => `(tactic| (rw [sizeLine_eq]; omega))
local macro_rules | `(tactic| walk_at "call ref") => rul none `el_use "AAAAP_!" 7 's'
structure Stop (P : Prop) : Prop where
  out : P
theorem stop_out {P : Prop} (h : Stop P) : P := h.out
local macro_rules | `(tactic| walk_at "exec If") => do rul (some (← `(exec (Stmt.If (Expr.Compare (Expr.Subscript _ _ _) _ _ _) _ _ _) _))) `stop_out "_" 0 'n'
local macro_rules | `(tactic| walk_at "exec If") => do rul (some (← `(exec (Stmt.If (Expr.Compare (Expr.Name _ _) [CmpOp.NotIn] _ _) _ _ _) _))) `stop_out "_" 0 'n'
local macro_rules | `(tactic| walk_at "exec For Name BinOp cons nil") => rul none `for_open "_" 0 'n'
section
variable {w : World} {s : Shared} {mg mb : Str → Option Value} {mean : ExcName → Option Value} {d u : Nat} {gd : Option (List Code)} {envL : Env} {outer : List Env} {E : Value → Shared → Prop}
end
end Mine
namespace Mine
noncomputable abbrev intsN (l : List Nat) : List Int := l.map fun q : Nat => (q : Int)
theorem fr_old {h₀ h h' : Heap} {L I : Addr} {m : Str → Option Value} (F : Fr h₀ L h m) (hL : L ≠ I) (hI : h₀.get? I = none) (k : ∀ b o, b ≠ I → h.get? b = some o → h'.get? b = some o) : Fr h₀ L h' m := by
  obtain ⟨oL, es, ep, e1, e2⟩ := F.ns
  exact ⟨⟨oL, es, ep, k _ _ hL e1, e2⟩, fun b ob e => k b ob (fun z => by rw [z, hI] at e; cases e) (F.keep b ob e), F.above⟩
theorem fr_none {h₀ h : Heap} {L I : Addr} {m : Str → Option Value} (F : Fr h₀ L h m) (hI : h.objs.size ≤ I) : h₀.get? I = none := by
  cases z : h₀.get? I with
  | none => rfl
  | some o => exact absurd (Heap.lt_size (F.keep _ _ z)) (Nat.not_lt.mpr hI)
theorem get_above {h₀ : Heap} {L : Addr} (h : h₀.objs.size ≤ L) : h₀.get? L = none := by
  cases z : h₀.get? L with
  | none => rfl
  | some o => exact absurd (Heap.lt_size z) (Nat.not_lt.mpr h)
end Mine
namespace Mine
/-- a call of a function with cells of its own -/
theorem callC_any {prog : Program} {w : World} {A : Around} {s : Shared} {K : Frag} {p : Program} {loose : List Str} {mg mb : Str → Option Value} {R : Result → Shared → Prop} {mean : ExcName → Option Value}
    {name qual : Str} {params : Arguments} {body : List Stmt} {scope : Scope} {dV kV doc pm cdv ct oc : Value} {an od : Option Addr} {osl : Array (Option Value)} {f : Addr} {args : Args} {binds : List (Str × Value)}
    (X : K.In s.heap) (T : Top p loose mean mg mb s.heap)
    (ho : K.lookup f = some ⟨oc, od, .func (fnOf name qual params body scope dV kV doc pm an cdv ct), osl⟩) (hcd : codeIn K cdv qual = true) (hroom : A.depth < recursionLimit)
    (hbind : BindsTo s (fnOf name qual params body scope dV kV doc pm an cdv ct) args binds) (hkind : (binds.all fun y => scope.names.lookup y.1 == some .local || scope.names.lookup y.1 == some .cell) = true)
    (hnd : ((cellsFrom 0 scope.names []).map (·.1)).Nodup)
    (h : ∀ L' h₁ tk cells, L' = s.heap.objs.size → Fr s.heap L' h₁ (bindL (envOfC qual scope L' f cdv).kindOf binds fun _ => none) → News s.heap L' h₁ cells →
      CellsAre (bindC (envOfC qual scope L' f cdv).kindOf binds fun _ => none) (cellsFrom (L' + 1) scope.names []) cells → K.In s.heap → Top p loose mean mg mb s.heap →
      wpAny (model prog w) (A.deeper (envOfC qual scope L' f cdv)) (execs body (envOfC qual scope L' f cdv))
        (fun fl s' => R (.ok (.ret (match fl with | .ret v => v | _ => .none))) s')
        (fun e s' => wpAny (model prog w) (A.deeper (envOfC qual scope L' f cdv)) (leaving (envOfC qual scope L' f cdv) e) (fun _ s'' => R (.error e) s'') (fun e' s'' => R (.error e') s'') s')
        { s with heap := h₁, toks := tk })
    (hco : scope.isCoroutine = false) (hgen : scope.isGenerator = false) (hk : scope.kind = .function) : codeAny (model prog w) A (.call (.ref f) args) R s := by
  refine codeAny_call_function hroom (X _ _ ho) rfl hco hgen rfl (codeRec_of X hcd) (hbind _ _ _ _ ?_)
  refine wpAny_newFunctionEnv_cells hk (kindsX hkind _) fun env' he s' x => ?_
  subst he
  refine ⟨T.nolimit.keeps x.toInCall.keep, codeAny_func ?_⟩
  obtain ⟨h₁, tk, rfl, _⟩ := x.done
  have hk₁ := x.toInCall.keep
  obtain ⟨cells, NC, Y⟩ := Cl.news (h₀ := s.heap) (Nat.le_refl _) fun n c hm => ⟨x.cell n c (lookup_of_mem_nodup (cellsFrom_names scope.names 0 (s.heap.objs.size + 1) [] [] rfl ▸ hnd) hm), x.above n c hm⟩
  exact h _ h₁ tk cells rfl ⟨x.toInCall.ns, hk₁, Nat.le_refl _⟩ NC Y X T
local macro_rules | `(tactic| walk_at "eval ListComp") => rul none `comp_eval "RRD_" 0 'n'
theorem AllLt.all {d : Addr} : ∀ {l : List (Addr × Obj)}, AllLt d l → ∀ p ∈ l, @LT.lt Nat _ p.1 d
  | [], _, _, h => nomatch h
  | _ :: _, x, _, .head _ => x.1
  | _ :: _, x, _, .tail _ h => AllLt.all x.2 _ h
theorem AllLt.ne {d : Addr} {l : List (Addr × Obj)} (h : AllLt d l) : ∀ p ∈ l, p.1 ≠ d := fun p hp => Nat.ne_of_lt (AllLt.all h p hp)
local macro_rules | `(tactic| k_all) => `(tactic| first | with_reducible assumption | exact AllLt.ne (by with_reducible assumption) | exact AllLt.ne (by with_reducible exact And.right ‹_ ∧ AllLt _ _›) | exact AllLt.ne (by with_reducible exact And.right (And.right ‹_ ∧ _ ∧ AllLt _ _›)) | exact AllLt.ne (by with_reducible exact And.right (And.right (And.right ‹_ ∧ _ ∧ _ ∧ AllLt _ _›))))
theorem lenB {prog : Program} {w : World} {A : Around} {E : Value → Shared → Prop} {s : Shared} {h₀ : Heap} {L l : Addr} {m : Str → Option Value} {its : List Value} {c n : Nat} {U : Nat → Nat} {Q : Value → Shared → Prop} (F : Fr h₀ L s.heap m) (hl : h₀.get? l = some (listOf (List.toArray its) c)) (tb : TblI its n U) (hn : n ≤ 100)
    (h : ∀ t t', Q (.int (n : Nat) t) { s with toks := t' }) : wpAny (model prog w) A (call (.builtin "len") [.ref l]) Q E s := by
  have e : (List.toArray its).size = n := by simpa using tb.1
  refine call_len_list (items := List.toArray its) ⟨_, F.keep _ _ hl, rfl, _, rfl⟩ (by rw [e]; omega) ?_
  rw [e]
  exact h _ _
local macro_rules | `(tactic| walk_at "call builtin:len") => rul (qcall `PySem.Value.builtin (qs "len") "r") `lenB "AAAO_!" 2 'n'
local macro_rules | `(tactic| walk_at "exec For Name Call cons nil") => rul none `for_open "_" 0 'n'
theorem subB {prog : Program} {w : World} {A : Around} {E : Value → Shared → Prop} {s : Shared} {h₀ : Heap} {L l : Addr} {m : Str → Option Value} {its : List Value} {c n : Nat} {i : Int} {u : Tok} {U : Nat → Nat} {value slice : Expr} {Q : Value → Shared → Prop} (F : Fr h₀ L s.heap m) (hl : h₀.get? l = some (listOf (List.toArray its) c)) (tb : TblI its n U) (h0 : 0 ≤ i) (hi : i.toNat < n) (hn : n ≤ 100) (h : ∀ t, Q (.int (U i.toNat : Nat) t) s)
    (hs : subscripted slice false (.ref l) (.int i u) = operate [.ref l, .int i u] (getItem (.ref l) (.int i u))) : wpAny (model prog w) A (subscriptTail value slice (.ref l) (.int i u)) Q E s := by
  obtain ⟨t, ht⟩ := tb.2 _ hi
  exact item_litK (vs := its) ⟨_, F.keep _ _ hl, rfl, _, rfl⟩ h0 (by have := tb.1; omega) ht (h t) hs
local macro_rules | `(tactic| walk_at "subscriptTail") => rul (qsub `PySem.Value.int) `subB "AAAOOO_S!" 1 'n'
local macro_rules | `(tactic| walk_at "last exec While") => rul none `stop_out "_" 0 'n'
local macro_rules | `(tactic| walk_at "exec While Compare") => rul none `stop_out "_" 0 'n'
local macro_rules | `(tactic| walk_at "call builtin:list.pop") => `(tactic| (k_here; (with_reducible show wpAny _ _ (call (Value.builtin _) [Value.ref _]) _ _ _); k_dflt (refine' kl_pop ?F ?N ?e ?U ?z ?_; (case F => k_asm); (case N => k_asm); (case U => k_upd); (case e => exact kpa_last _ _); (case z => rw [sizeLine_eq]; simp only [List.length_append, List.length_cons, List.length_nil]; omega)); (intro h' F' N'; (try dsimp only [List.nil_append, List.cons_append] at N'))))
theorem tests_one {M : Model} {A : Around} {c : Expr} {env : Env} {Q : Bool → Shared → Prop} {E : Value → Shared → Prop} {s : Shared} (h : wpAny M A (isTrue c env (eval c env)) Q E s) : wpAny M A (testsOf [c] env) Q E s := by
  show wpAny M A (forIn [c] true _) Q E s
  rw [List.forIn_cons]
  simp only [if_true]
  refine wpAny_bind (wpAny_bind (wpAny_mono h (fun b s' hb => ?_) fun _ _ z => z))
  refine wpAny_pure ?_
  simp only [List.forIn_nil]
  exact wpAny_pure hb
section
variable {w : World} {s : Shared} {mg mb : Str → Option Value} {mean : ExcName → Option Value} {d u : Nat} {gd : Option (List Code)} {outer : List Env} {E : Value → Shared → Prop}
end
end Mine
namespace Mine
/-- a comprehension's state between its turns -/
inductive CJ (s₀ : Shared) (h₀ : Heap) (L I D C : Addr) (m : Str → Option Value) (J : Nat → List Value → List (Addr × Obj) → Array GenState → Prop) (i : Nat) (acc : Array Value) (s' : Shared) : Prop
  | mk (h : Heap) (tk : Nat) (g : Array GenState) (news : List (Addr × Obj)) (q1 : s' = { s₀ with heap := h, toks := tk, gens := g }) (q2 : Fr h₀ L h m) (q3 : News h₀ L h news) (q4 : J i acc.toList news g) (q5 : ∀ q ∈ news, q.1 ≠ I ∧ q.1 ≠ D ∧ q.1 ≠ C) : CJ s₀ h₀ L I D C m J i acc s'
/-- a turn's end -/
inductive CPost (s₀ : Shared) (h₀ : Heap) (L I D C : Addr) (m : Str → Option Value) (oI oD : Obj) (Jx : List (Addr × Obj) → Array GenState → Prop) (s₅ : Shared) : Prop
  | mk (h : Heap) (tk : Nat) (g : Array GenState) (news : List (Addr × Obj)) (q1 : s₅ = { s₀ with heap := h, toks := tk, gens := g }) (q2 : Kp h₀ h) (q3 : h.Ns L m) (q4 : ∃ mC, h.Ns C mC) (q5 : News h₀ C h ((I, oI) :: (D, oD) :: news)) (q6 : ∀ q ∈ news, q.1 ≠ I ∧ q.1 ≠ D ∧ q.1 ≠ L) (q7 : Jx news g) : CPost s₀ h₀ L I D C m oI oD Jx s₅
theorem CPost.cj {s₀ : Shared} {h₀ : Heap} {L I D C : Addr} {m : Str → Option Value} {oI oD : Obj} {J : Nat → List Value → List (Addr × Obj) → Array GenState → Prop} {i : Nat} {acc : Array Value} {s₅ : Shared} (hL : h₀.objs.size ≤ L) (h : CPost s₀ h₀ L I D C m oI oD (J i acc.toList) s₅) :
    CJ s₀ h₀ L I D C m J i acc s₅ ∧ s₅.heap.get? I = some oI ∧ s₅.heap.get? D = some oD ∧ ∃ m, s₅.heap.Ns C m := by
  obtain ⟨h, tk, g, news, rfl, k, hn, hC, N, ne, j⟩ := h
  obtain ⟨n1, N⟩ := List.forall_mem_cons.mp N
  obtain ⟨n2, N⟩ := List.forall_mem_cons.mp N
  exact ⟨⟨h, tk, g, news, rfl, ⟨hn, k, hL⟩, fun q hq => ⟨(N q hq).1, (ne q hq).2.2, (N q hq).2.2⟩, j, fun q hq => ⟨(ne q hq).1, (ne q hq).2.1, (N q hq).2.1⟩⟩, n1.1, n2.1, hC⟩
theorem CJ.frame {s₀ : Shared} {h₀ : Heap} {L I D C : Addr} {m : Str → Option Value} {J : Nat → List Value → List (Addr × Obj) → Array GenState → Prop} {i : Nat} {acc : Array Value} {s' : Shared} (q : L ≠ I ∧ L ≠ D ∧ L ≠ C) (qI : h₀.get? I = none) (qD : h₀.get? D = none) (qC : h₀.get? C = none)
    (x : CJ s₀ h₀ L I D C m J i acc s') {h' : Heap} {tk : Nat} (k : ∀ b o, b ≠ I → b ≠ D → b ≠ C → s'.heap.get? b = some o → h'.get? b = some o) : CJ s₀ h₀ L I D C m J i acc { s' with heap := h', toks := tk } := by
  obtain ⟨h, tk0, g, news, rfl, F, N, j, ne⟩ := x
  refine ⟨h', tk, g, news, rfl, ⟨?_, fun b o e => k b o (fun z => by rw [z, qI] at e; cases e) (fun z => by rw [z, qD] at e; cases e) (fun z => by rw [z, qC] at e; cases e) (F.keep b o e), F.above⟩, fun p hp => ⟨k _ _ (ne p hp).1 (ne p hp).2.1 (ne p hp).2.2 (N p hp).1, (N p hp).2⟩, j, ne⟩
  obtain ⟨o, es, ep, e1, r⟩ := F.ns
  exact ⟨o, es, ep, k _ _ q.1 q.2.1 q.2.2 e1, r⟩
section
variable {prog : Program} {w : World} {A : Around} {E : Value → Shared → Prop} {s : Shared} {env : Env}
/-- what a turn of a comprehension is told -/
structure CTurn (s : Shared) (h₀ : Heap) (L I D C : Addr) (m : Str → Option Value) (x : Str) (v : Value) (news₁ : List (Addr × Obj)) (h₁ : Heap) (oI oD oL : Obj) (mC : Str → Option Value) : Prop where
  F : Fr h₀ C h₁ mC
  hx : mC x = some v
  N : News h₀ C h₁ ((I, oI) :: (D, oD) :: (L, oL) :: news₁)
  hL : ∀ h : Heap, h.get? L = some oL → h.Ns L m
  ne : ∀ q ∈ news₁, q.1 ≠ I ∧ q.1 ≠ D ∧ q.1 ≠ L
  lt : @LT.lt Nat _ L I ∧ @LT.lt Nat _ I D ∧ @LT.lt Nat _ D C
theorem CJ.turn {s₀ : Shared} {h₀ : Heap} {L I D C : Addr} {m : Str → Option Value} {J : Nat → List Value → List (Addr × Obj) → Array GenState → Prop} {i : Nat} {acc : Array Value} {s₃ : Shared} {x : Str} {v : Value} {oI oD oC : Obj} (lt : @LT.lt Nat _ L I ∧ @LT.lt Nat _ I D ∧ @LT.lt Nat _ D C) (hsz : @LE.le Nat _ h₀.objs.size I)
    (j : CJ s₀ h₀ L I D C m J i acc s₃) (h1 : s₃.heap.get? I = some oI) (h2 : s₃.heap.get? D = some oD) (h3 : s₃.heap.get? C = some oC) (h4 : ∀ h : Heap, h.get? C = some oC → ∃ m, h.Ns C m ∧ m x = some v) :
    ∃ h tk g news oL mC, s₃ = { s₀ with heap := h, toks := tk, gens := g } ∧ J i acc.toList news g ∧ CTurn s₀ h₀ L I D C m x v news h oI oD oL mC := by
  obtain ⟨h, tk, g, news, rfl, F, N, j, ne⟩ := j
  obtain ⟨mC, hC, hx⟩ := h4 _ h3
  obtain ⟨oL, es, ep, eL, r⟩ := id F.ns
  refine ⟨h, tk, g, news, oL, mC, rfl, j, ⟨hC, F.keep, show @LE.le Nat _ _ _ from by omega⟩, hx, ?_, fun h e => ⟨oL, es, ep, e, r⟩, fun q hq => ⟨(ne q hq).1, (ne q hq).2.1, (N q hq).2.1⟩, lt⟩
  refine List.forall_mem_cons.mpr ⟨⟨h1, show @Ne Nat _ _ from by omega, get_above hsz⟩, List.forall_mem_cons.mpr ⟨⟨h2, show @Ne Nat _ _ from by omega, get_above (show @LE.le Nat _ _ _ from by omega)⟩, List.forall_mem_cons.mpr ⟨⟨eL, show @Ne Nat _ _ from by omega, get_above F.above⟩, fun q hq => ⟨(N q hq).1, (ne q hq).2.2, (N q hq).2.2⟩⟩⟩⟩
/-- a list comprehension of one clause over a list -/
theorem comp_core {use : Option (Value → Sem Unit)} {elt iter : Expr} {x : Str} {px : Pos} {ifs : List Expr} {scope : Scope} {cl : List (Str × Addr)} {pos : Pos} {Q : Value → Shared → Prop} {l I D C : Addr} {items : Array Value} {h₀ : Heap} {L : Addr} {m : Str → Option Value} {news : List (Addr × Obj)}
    (hII : I = s.heap.objs.size) (hDD : D = s.heap.objs.size + 1) (hCC : C = s.heap.objs.size + 2) (hh : A.handled = none)
    (hcell : ∀ y ∈ scope.names, y.2 ≠ .cell) (hkind : scope.kind = .function) (hx : scope.names.lookup x = some .local)
    (F : Fr h₀ L s.heap m) (N : News h₀ L s.heap news) (J : Nat → List Value → List (Addr × Obj) → Array GenState → Prop) (h0 : J 0 [] news s.gens)
    (hl : ∀ i acc news' g, J i acc news' g → ∃ c, (l, listOf items c) ∈ news')
    (turn : ∀ i v acc news₁ h₁ tk₁ g₁ oI oD oL mC E', items[i]? = some v → J i acc news₁ g₁ → CTurn s h₀ L I D C m x v news₁ h₁ oI oD oL mC →
      wpAny (model prog w) A (testsOf ifs (compEnvC scope cl C env)) (fun ok s₄ => if ok = true then wpAny (model prog w) A (eval elt (compEnvC scope cl C env)) (fun y s₅ => CPost s h₀ L I D C m oI oD (J (i + 1) (acc ++ [y])) s₅) E' s₄
        else CPost s h₀ L I D C m oI oD (J (i + 1) acc) s₄) E' { s with heap := h₁, toks := tk₁, gens := g₁ })
    (hQ : ∀ acc c h' tk g news' mC, J items.size acc news' g → Fr h₀ L h' m → News h₀ L h' ((D, listOf acc.toArray c) :: news') → (∀ q ∈ news', q.1 ≠ D ∧ q.1 ≠ C) → (@LT.lt Nat _ L D ∧ @LT.lt Nat _ D C) → h₀.get? C = none → h'.Ns C mC → compPost (model prog w) A E use Q (.ref D) C (.ok .next) { s with heap := h', toks := tk, gens := g }) (hsz : items.size ≤ sizeLine) :
    CompSt prog w A E env elt iter x px ifs scope cl pos use Q (.ref l) s := by
  have hLI : @LT.lt Nat _ L I := by rw [hII]; exact F.ns.lt
  have hID : @LT.lt Nat _ I D := by rw [hII, hDD]; exact Nat.lt_succ_self _
  have hDC : @LT.lt Nat _ D C := by rw [hDD, hCC]; exact Nat.lt_succ_self _
  have hs : @LE.le Nat _ h₀.objs.size I := Nat.le_trans F.above (Nat.le_of_lt hLI)
  have qI : h₀.get? I = none := get_above hs
  have qD : h₀.get? D = none := get_above (show @LE.le Nat _ _ _ from by omega)
  have qC : h₀.get? C = none := get_above (show @LE.le Nat _ _ _ from by omega)
  have ql : L ≠ I ∧ L ≠ D ∧ L ≠ C := ⟨show @Ne Nat _ _ from by omega, show @Ne Nat _ _ from by omega, show @Ne Nat _ _ from by omega⟩
  have j0 : CJ s h₀ L I D C m J 0 #[] s := ⟨_, _, _, news, rfl, F, N, h0, fun q hq => by
    have : @LT.lt Nat _ q.1 I := by rw [hII]; exact Heap.lt_size (N q hq).1
    exact ⟨show @Ne Nat _ _ from by omega, show @Ne Nat _ _ from by omega, show @Ne Nat _ _ from by omega⟩⟩
  have jl : ∀ i acc s', CJ s h₀ L I D C m J i acc s' → s'.heap.IsList l items := by
    rintro i acc s' ⟨h, tk, g, news', rfl, F', N', j, ne⟩
    obtain ⟨c, hc⟩ := hl _ _ _ _ j
    exact ⟨_, (N' _ hc).1, rfl, c, rfl⟩
  refine comp_at (I := I) (D := D) (C := C) hII hDD hCC hh hcell hkind hx (jl _ _ _ j0) (CJ s h₀ L I D C m J) ?fr jl j0 ?turn ?done hsz
  case fr => exact fun i acc s' h' tk x k => x.frame ql qI qD qC k
  case turn =>
    intro i v acc s₃ oI oD oC E' hv j h1 h2 h3 h4
    obtain ⟨h, tk, g, news', oL, mC, rfl, j, T⟩ := j.turn ⟨hLI, hID, hDC⟩ hs h1 h2 h3 h4
    refine wpAny_mono (turn i v _ _ _ _ _ _ _ _ _ E' hv j T) (fun ok s₄ h₄ => ?_) fun _ _ z => z
    by_cases hok : ok = true
    · rw [if_pos hok] at h₄ ⊢
      exact wpAny_mono h₄ (fun y s₅ h₅ => CPost.cj F.above (by rw [Array.toList_push]; exact h₅)) fun _ _ z => z
    · rw [if_neg hok] at h₄ ⊢
      exact CPost.cj F.above h₄
  case done =>
    rintro acc c s' ⟨h, tk, g, news', rfl, F', N', j, ne⟩ hD ⟨mC, hm⟩
    refine hQ acc.toList c h tk g news' mC j F' ?_ (fun q hq => (ne q hq).2) ⟨show @LT.lt Nat _ _ _ from by omega, hDC⟩ qC hm
    rw [Array.toArray_toList]
    exact List.forall_mem_cons.mpr ⟨⟨hD, ql.2.1.symm, qD⟩, N'⟩
/-- a list comprehension of one clause over a list -/
theorem comp_inv {elt iter : Expr} {x : Str} {px : Pos} {ifs : List Expr} {scope : Scope} {cl : List (Str × Addr)} {pos : Pos} {Q : Value → Shared → Prop} {l I D C : Addr} {items : Array Value} {h₀ : Heap} {L : Addr} {m : Str → Option Value} {news : List (Addr × Obj)}
    (hII : I = s.heap.objs.size) (hDD : D = s.heap.objs.size + 1) (hCC : C = s.heap.objs.size + 2) (hh : A.handled = none)
    (hcell : ∀ y ∈ scope.names, y.2 ≠ .cell) (hkind : scope.kind = .function) (hx : scope.names.lookup x = some .local)
    (F : Fr h₀ L s.heap m) (N : News h₀ L s.heap news) (J : Nat → List Value → List (Addr × Obj) → Array GenState → Prop) (h0 : J 0 [] news s.gens)
    (hl : ∀ i acc news' g, J i acc news' g → ∃ c, (l, listOf items c) ∈ news')
    (turn : ∀ i v acc news₁ h₁ tk₁ g₁ oI oD oL mC E', items[i]? = some v → J i acc news₁ g₁ → CTurn s h₀ L I D C m x v news₁ h₁ oI oD oL mC →
      wpAny (model prog w) A (testsOf ifs (compEnvC scope cl C env)) (fun ok s₄ => if ok = true then wpAny (model prog w) A (eval elt (compEnvC scope cl C env)) (fun y s₅ => CPost s h₀ L I D C m oI oD (J (i + 1) (acc ++ [y])) s₅) E' s₄
        else CPost s h₀ L I D C m oI oD (J (i + 1) acc) s₄) E' { s with heap := h₁, toks := tk₁, gens := g₁ })
    (hQ : ∀ acc c h' tk g news', J items.size acc news' g → Fr h₀ L h' m → News h₀ L h' ((D, listOf acc.toArray c) :: news') → (∀ q ∈ news', q.1 ≠ D) → @LT.lt Nat _ L D → Q (.ref D) { s with heap := h', toks := tk, gens := g }) (hsz : items.size ≤ sizeLine) :
    CompSt prog w A E env elt iter x px ifs scope cl pos none Q (.ref l) s := by
  refine comp_core hII hDD hCC hh hcell hkind hx F N J h0 hl turn ?_ hsz
  intro acc c h' tk g news' mC j F' N' ne lt qC hm
  refine ⟨mC, hm, fun h2 hs2 => ?_⟩
  have hCL : C ≠ L := show @Ne Nat _ _ from by omega
  refine hQ acc c h2 tk g news' j (ksk_fr F' hs2 hCL qC) ?_ (fun q hq => (ne q hq).1) lt.1
  exact ksk_news N' hs2 (List.forall_mem_cons.mpr ⟨show @Ne Nat _ _ from by omega, fun q hq => (ne q hq).2⟩)
/-- a list comprehension of one clause over a list -/
theorem comp_store {y : Str} {py : Pos} {elt iter : Expr} {x : Str} {px : Pos} {ifs : List Expr} {scope : Scope} {cl : List (Str × Addr)} {pos : Pos} {Q : Value → Shared → Prop} {l I D C : Addr} {items : Array Value} {h₀ : Heap} {L : Addr} {m : Str → Option Value} {news : List (Addr × Obj)}
    (hII : I = s.heap.objs.size) (hDD : D = s.heap.objs.size + 1) (hCC : C = s.heap.objs.size + 2) (hh : A.handled = none) (hLe : env.locals = L) (hy : env.kindOf y = some .local) (hp : (env.scope.kind == .class || (env.scope.kind == .module && env.locals != env.globals)) = false)
    (hcell : ∀ y ∈ scope.names, y.2 ≠ .cell) (hkind : scope.kind = .function) (hx : scope.names.lookup x = some .local)
    (F : Fr h₀ L s.heap m) (N : News h₀ L s.heap news) (J : Nat → List Value → List (Addr × Obj) → Array GenState → Prop) (h0 : J 0 [] news s.gens)
    (hl : ∀ i acc news' g, J i acc news' g → ∃ c, (l, listOf items c) ∈ news')
    (turn : ∀ i v acc news₁ h₁ tk₁ g₁ oI oD oL mC E', items[i]? = some v → J i acc news₁ g₁ → CTurn s h₀ L I D C m x v news₁ h₁ oI oD oL mC →
      wpAny (model prog w) A (testsOf ifs (compEnvC scope cl C env)) (fun ok s₄ => if ok = true then wpAny (model prog w) A (eval elt (compEnvC scope cl C env)) (fun y s₅ => CPost s h₀ L I D C m oI oD (J (i + 1) (acc ++ [y])) s₅) E' s₄
        else CPost s h₀ L I D C m oI oD (J (i + 1) acc) s₄) E' { s with heap := h₁, toks := tk₁, gens := g₁ })
    (hQ : ∀ acc c h' tk g news', J items.size acc news' g → Fr h₀ L h' (fun z => if z = y then some (.ref D) else m z) → News h₀ L h' ((D, listOf acc.toArray c) :: news') → (∀ q ∈ news', q.1 ≠ D) → @LT.lt Nat _ L D → Q .none { s with heap := h', toks := tk, gens := g }) (hsz : items.size ≤ sizeLine) :
    CompSt prog w A E env elt iter x px ifs scope cl pos (some (assign (.Name y py) env)) Q (.ref l) s := by
  subst hLe
  refine comp_core hII hDD hCC hh hcell hkind hx F N J h0 hl turn ?_ hsz
  intro acc c h' tk g news' mC j F' N' ne lt qC hm
  have hCL : C ≠ env.locals := show @Ne Nat _ _ from by omega
  show wpAny _ A (assign (.Name y py) env (.ref D)) _ _ _
  refine wpAny_assign_Name (wpAny_storeName_local hy F'.ns (fun h₂ hn₂ hs₂ => ?_) hp)
  have F2 : Fr h₀ env.locals h₂ (fun z => if z = y then some (.ref D) else m z) := F'.set hn₂ hs₂
  have N2 : News h₀ env.locals h₂ ((D, listOf acc.toArray c) :: news') := fun q hq => ⟨hs₂.extBut _ _ (N' q hq).2.1 (N' q hq).1, (N' q hq).2⟩
  refine ⟨mC, hm.sameBut hs₂ hCL, fun h₃ hs₃ => ?_⟩
  refine hQ acc c h₃ _ g news' j (ksk_fr F2 hs₃ hCL qC) ?_ (fun q hq => (ne q hq).1) lt.1
  exact ksk_news N2 hs₃ (List.forall_mem_cons.mpr ⟨show @Ne Nat _ _ from by omega, fun q hq => (ne q hq).2⟩)
theorem assign_comp {elt iter : Expr} {x y : Str} {px py : Pos} {ifs : List Expr} {scope : Scope} {cl : List (Str × Addr)} {pos spos : Pos} {Q : Flow → Shared → Prop}
    (hsw : swapsWith (.ListComp elt [⟨.Name x px, iter, ifs, 0⟩] scope pos) (some (.Name y py)) spos.line env = pure true) (hclos : closureFor scope env = pure cl) (hkind : scope.kind = .function)
    (hnames : ∀ z ∈ scope.names, z.2 = .local → scope.names.lookup z.1 = some .local)
    (h : wpAny (model prog w) A (eval iter env) (CompSt prog w A E env elt iter x px ifs scope cl pos (some (assign (.Name y py) env)) (fun _ s' => Q .next s')) E s)
    (hs : ∀ x, foldedSetIterable iter env x = pure x := by intro _; rfl) :
    wpAny (model prog w) A (exec (.Assign [.Name y py] (.ListComp elt [⟨.Name x px, iter, ifs, 0⟩] scope pos) spos) env) Q E s := by
  rw [exec_Assign_Name_used _ _ _ _ hsw]
  refine wpAny_bind (wpAny_standAt (wpAny_bind ?_))
  show wpAny _ A (do let _ ← comprehension (.ListComp elt [⟨.Name x px, iter, ifs, 0⟩] scope pos) scope env _ (newList []) false (eval iter env) (some (assign (.Name y py) env))) _ _ s
  exact wpAny_bind (wpAny_mono (wpAny_comprehension_free (use := some (assign (.Name y py) env)) (Q := fun _ s' => Q .next s') rfl hs hclos hkind hnames
    (wpAny_mono h (fun xv s₁ h₁ => h₁) fun _ _ e => e)) (fun _ s' hq => wpAny_pure (wpAny_pure hq)) fun _ _ e => e)
theorem CTurn.post {s : Shared} {h₀ : Heap} {L I D C : Addr} {m mC mC' : Str → Option Value} {x : Str} {v : Value} {news₁ : List (Addr × Obj)} {h₁ h' : Heap} {oI oD oL : Obj} {Jx : List (Addr × Obj) → Array GenState → Prop} {tk : Nat} {g : Array GenState}
    (T : CTurn s h₀ L I D C m x v news₁ h₁ oI oD oL mC) (F' : Fr h₀ C h' mC') (N' : ∀ q ∈ (I, oI) :: (D, oD) :: (L, oL) :: news₁, h'.get? q.1 = some q.2) (j : Jx news₁ g) : CPost s h₀ L I D C m oI oD Jx { s with heap := h', toks := tk, gens := g } := by
  refine ⟨h', tk, g, news₁, rfl, F'.keep, T.hL _ (N' _ (.tail _ (.tail _ (.head _)))), ⟨_, F'.ns⟩, fun q hq => ?_, T.ne, j⟩
  have hq' : q ∈ (I, oI) :: (D, oD) :: (L, oL) :: news₁ := by
    rcases List.mem_cons.mp hq with z | hq
    · rw [z]; exact .head _
    rcases List.mem_cons.mp hq with z | hq
    · rw [z]; exact .tail _ (.head _)
    · exact .tail _ (.tail _ (.tail _ hq))
  exact ⟨N' q hq', (T.N q hq').2⟩
noncomputable def JFix (news₀ : List (Addr × Obj)) (g₀ : Array GenState) (P : Nat → List Value → Prop) (i : Nat) (acc : List Value) (news : List (Addr × Obj)) (g : Array GenState) : Prop := news = news₀ ∧ g = g₀ ∧ P i acc
end
end Mine
namespace Mine
theorem compTurn_two0 (elt t0 t1 i0 i1 : Expr) (scope : Scope) (pos : Pos) (it acc : Value) (env : Env) :
    compTurn (.ListComp elt [⟨t0, i0, [], 0⟩, ⟨t1, i1, [], 0⟩] scope pos) 0 it acc env = (do
      standAt i0.pos
      match ← pyNext it with
      | none => pure (.done .next)
      | some v =>
        letOwnedTupleGo t0 it v
        assign t0 env v
        let x ← eval i1 env
        standAt i1.pos
        let x ← foldedSetIterable i1 env x
        let _ ← runOwn (.compStart (.ListComp elt [⟨t0, i0, [], 0⟩, ⟨t1, i1, [], 0⟩] scope pos) 1 (← holding [x] (pyIter x)) acc env) env
        again (.compLoop (.ListComp elt [⟨t0, i0, [], 0⟩, ⟨t1, i1, [], 0⟩] scope pos) 0 it acc env)) := by rfl
theorem compTurn_two1 (elt t0 t1 i0 i1 : Expr) (scope : Scope) (pos : Pos) (it acc : Value) (env : Env) :
    compTurn (.ListComp elt [⟨t0, i0, [], 0⟩, ⟨t1, i1, [], 0⟩] scope pos) 1 it acc env = (standAt i1.pos >>= fun _ => pyNext it >>= fun r => match r with
      | none => pure (.done .next)
      | some v => letOwnedTupleGo t1 it v >>= fun _ => assign t1 env v >>= fun _ =>
        (eval elt env >>= fun x => call (.builtin "list.append") [acc, x] >>= fun _ => pure ()) >>= fun _ =>
          again (.compLoop (.ListComp elt [⟨t0, i0, [], 0⟩, ⟨t1, i1, [], 0⟩] scope pos) 1 it acc env)) := by rfl
section
variable {prog : Program} {w : World} {A : Around} {E : Value → Shared → Prop} {R : Result → Shared → Prop} {s : Shared} {env : Env}
noncomputable abbrev twoC (elt t0 t1 i0 i1 : Expr) (scope : Scope) (pos : Pos) : Expr := .ListComp elt [⟨t0, i0, [], 0⟩, ⟨t1, i1, [], 0⟩] scope pos
theorem two_outer {elt t0 t1 i0 i1 : Expr} {scope : Scope} {pos : Pos} {it acc : Value} (I : Nat → Shared → Prop)
    (turn : ∀ n s, I n s → wpAny (model prog w) A (pyNext it) (fun r s₁ => match r with
      | none => R (.ok .next) s₁
      | some v => wpAny (model prog w) A (assign t0 env v) (fun _ s₂ => wpAny (model prog w) A (eval i1 env) (fun x s₃ => wpAny (model prog w) A (pyIter x) (fun it1 s₄ =>
          codeAny (model prog w) A (.compStart (twoC elt t0 t1 i0 i1 scope pos) 1 it1 acc env) (fun r s' => match r with | .ok _ => ∃ m, m < n ∧ I m s' | .error e => cameBackBy (model prog w) A env (notedBy (model prog w) A env fun e s' => R (.error e) s') e s') s₄)
          (notedBy (model prog w) A env fun e s' => R (.error e) s') s₃) (notedBy (model prog w) A env fun e s' => R (.error e) s') s₂) (notedBy (model prog w) A env fun e s' => R (.error e) s') s₁) (notedBy (model prog w) A env fun e s' => R (.error e) s') s)
    (n : Nat) (h : I n s) (ht : ∀ v, letOwnedTupleGo t0 it v = pure () := by intro _; rfl) (hs : ∀ x, foldedSetIterable i1 env x = pure x := by intro _; rfl) :
    codeAny (model prog w) A (.compLoop (twoC elt t0 t1 i0 i1 scope pos) 0 it acc env) R s := by
  refine codeAny_loop rfl I (fun n s hI => ?_) n h
  show wpAny _ _ ((compTurn (twoC elt t0 t1 i0 i1 scope pos) 0 it acc env).onRaise (fun x => do noteFrame x env; theTreesLotGoes x)) _ _ s
  refine wpAny_noted ?_
  rw [compTurn_two0]
  refine wpAny_bind (wpAny_standAt (wpAny_bind (wpAny_mono (turn n s hI) (fun r s₁ h₁ => ?_) fun _ _ h' => h')))
  cases r with
  | none => exact wpAny_pure h₁
  | some v =>
    refine wpAny_bind (wpAny_of_eq (ht v) ?_)
    refine wpAny_bind (wpAny_mono h₁ (fun _ s₂ h₂ => ?_) fun _ _ h' => h')
    refine wpAny_bind (wpAny_mono h₂ (fun x s₃ h₃ => ?_) fun _ _ h' => h')
    refine wpAny_bind (wpAny_standAt (wpAny_bind (wpAny_of_eq (hs x) (wpAny_bind (wpAny_holding (wpAny_mono h₃ (fun it1 s₄ h₄ => ?_) fun _ _ h' => h'))))))
    refine wpAny_bind (wpAny_runOwn (codeAny_mono h₄ fun r s' hr => ?_))
    cases r with
    | ok f => exact wpAny_pure ⟨rfl, hr⟩
    | error e => exact hr
theorem two_inner {elt t0 t1 i0 i1 : Expr} {scope : Scope} {pos : Pos} {it acc : Value} (I : Nat → Shared → Prop)
    (turn : ∀ n s, I n s → wpAny (model prog w) A (pyNext it) (fun r s₁ => match r with
      | none => R (.ok .next) s₁
      | some v => wpAny (model prog w) A (assign t1 env v) (fun _ s₂ => wpAny (model prog w) A (eval elt env) (fun x s₃ =>
          wpAny (model prog w) A (call (.builtin "list.append") [acc, x]) (fun _ s₄ => ∃ m, m < n ∧ I m s₄) (notedBy (model prog w) A env fun e s' => R (.error e) s') s₃)
          (notedBy (model prog w) A env fun e s' => R (.error e) s') s₂) (notedBy (model prog w) A env fun e s' => R (.error e) s') s₁) (notedBy (model prog w) A env fun e s' => R (.error e) s') s)
    (n : Nat) (h : I n s) (ht : ∀ v, letOwnedTupleGo t1 it v = pure () := by intro _; rfl) :
    codeAny (model prog w) A (.compLoop (twoC elt t0 t1 i0 i1 scope pos) 1 it acc env) R s := by
  refine codeAny_loop rfl I (fun n s hI => ?_) n h
  show wpAny _ _ ((compTurn (twoC elt t0 t1 i0 i1 scope pos) 1 it acc env).onRaise (fun x => do noteFrame x env; theTreesLotGoes x)) _ _ s
  refine wpAny_noted ?_
  rw [compTurn_two1]
  refine wpAny_bind (wpAny_standAt (wpAny_bind (wpAny_mono (turn n s hI) (fun r s₁ h₁ => ?_) fun _ _ h' => h')))
  cases r with
  | none => exact wpAny_pure h₁
  | some v =>
    refine wpAny_bind (wpAny_of_eq (ht v) ?_)
    exact wpAny_bind (wpAny_mono h₁ (fun _ s₂ h₂ => wpAny_bind (wpAny_bind (wpAny_mono h₂ (fun x s₃ h₃ => wpAny_bind (wpAny_mono h₃
      (fun _ s₄ h₄ => wpAny_pure (wpAny_pure ⟨rfl, h₄⟩)) fun _ _ h' => h')) fun _ _ h' => h'))) fun _ _ h' => h')
theorem two_start {elt t0 t1 i0 i1 : Expr} {scope : Scope} {pos : Pos} {it acc : Value}
    (h0 : codeAny (model prog w) A (.compLoop (twoC elt t0 t1 i0 i1 scope pos) 1 it acc env) R s)
    (h : wpAny (model prog w) A (pyIter it) (fun it' s' => codeAny (model prog w) A (.compLoop (twoC elt t0 t1 i0 i1 scope pos) 1 it' acc env) R s')
      (notedBy (model prog w) A env fun x s' => R (.error x) s') s) :
    codeAny (model prog w) A (.compStart (twoC elt t0 t1 i0 i1 scope pos) 1 it acc env) R s := by
  refine codeAny_of_tree ?_
  show wpAny _ _ ((compStart (twoC elt t0 t1 i0 i1 scope pos) 1 it acc env).onRaise (fun x => do noteFrame x env; standAt theWindowsPlace)) _ _ s
  refine wpAny_notedAt ?_
  unfold compStart
  show wpAny _ _ (ask >>= _) _ _ s
  refine wpAny_bind (wpAny_askSetting (wpAny_ite ?_))
  split
  · first
      | exact wpAny_bind (wpAny_pure (wpAny_pure (And.intro rfl h0)))
      | exact wpAny_pure (And.intro rfl h0)
  · refine wpAny_bind (wpAny_rule ?_)
    show wpAny _ _ (standAt i1.pos >>= _) _ _ s
    exact wpAny_bind (wpAny_standAt (wpAny_bind (wpAny_mono h (fun it' s' h' => wpAny_pure (And.intro rfl h')) fun _ _ x => x)))
variable {M : Model}
/-- what a comprehension of two clauses still has to do, once its source stands -/
noncomputable def CompSt2 (prog : Program) (w : World) (A : Around) (E : Value → Shared → Prop) (env : Env) (e : Expr) (scope : Scope) (cl : List (Str × Addr)) (Q : Value → Shared → Prop) (xv : Value) (s₁ : Shared) : Prop :=
  wpAny (model prog w) A (pyIter xv) (fun it s₂ => wpAny (model prog w) A (newList []) (fun acc s₃ => wpAny (model prog w) A (newFunctionEnv scope env.globals cl [] env.qual none .none (some env)) (fun cenv s₄ =>
      codeAny (model prog w) A (.compStart e 0 it acc { cenv with scope := relabel scope env }) (compPost (model prog w) A E none Q acc cenv.locals) s₄) E s₃) E s₂) E s₁
theorem comp2_eval {elt t0 t1 i0 i1 : Expr} {scope : Scope} {cl : List (Str × Addr)} {pos : Pos} {Q : Value → Shared → Prop} (hclos : closureFor scope env = pure cl) (hkind : scope.kind = .function)
    (hnames : ∀ y ∈ scope.names, y.2 = .local → scope.names.lookup y.1 = some .local) (h : wpAny (model prog w) A (eval i0 env) (CompSt2 prog w A E env (twoC elt t0 t1 i0 i1 scope pos) scope cl Q) E s)
    (hs : ∀ x, foldedSetIterable i0 env x = pure x := by intro _; rfl) : wpAny (model prog w) A (eval (.ListComp elt [⟨t0, i0, [], 0⟩, ⟨t1, i1, [], 0⟩] scope pos) env) Q E s := by
  rw [eval_ListComp]
  exact wpAny_comprehension_free (use := none) rfl hs hclos hkind hnames (wpAny_mono h (fun xv s₁ h₁ => h₁) fun _ _ e => e)
end
end Mine
namespace Mine
theorem out_of {h₀ h : Heap} {L a : Addr} {m : Str → Option Value} (F : Fr h₀ L h m) (e : h.get? a = none) : h₀.get? a = none ∧ a ≠ L := by
  refine ⟨?_, fun z => ?_⟩
  · cases q : h₀.get? a with
    | none => rfl
    | some o => rw [F.keep _ _ q] at e; cases e
  · obtain ⟨o, _, _, ho, _⟩ := F.ns
    rw [← z, e] at ho; cases ho
section
variable {w : World} {s : Shared} {mg mb : Str → Option Value} {mean : ExcName → Option Value} {d u : Nat} {gd : Option (List Code)} {outer : List Env} {E : Value → Shared → Prop} {h₀ : Heap} {L : Addr} {m : Str → Option Value} {news : List (Addr × Obj)}
end
local macro_rules | `(tactic| walk_at "eval ListComp") => rul none `comp_eval "RRD_" 0 'n'
theorem name_C {prog : Program} {w : World} {A : Around} {E : Value → Shared → Prop} {s : Shared} {h₀ : Heap} {C : Addr} {m : Str → Option Value} {scope : Scope} {cl : List (Str × Addr)} {env : Env} {x : Str} {pos : Pos} {v : Value} {Q : Value → Shared → Prop} (F : Fr h₀ C s.heap m) (hv : m x = some v)
    (hk : (compEnvC scope cl C env).scope.kind = .function) (hl : (compEnvC scope cl C env).kindOf x = some .local) (hd : (x == ("__debug__" : Str)) = false) (h : Q v s) : wpAny (model prog w) A (eval (.Name x pos) (compEnvC scope cl C env)) Q E s :=
  wpAny_Name (wpAny_loadName_local hk hl F.ns hv h) hd
local macro_rules | `(tactic| walk_at "eval Name") => do rul (some (← `(eval (Expr.Name _ _) (compEnvC _ _ _ _)))) `name_C "AArSD_!" 0 'n'
local macro_rules | `(tactic| walk_at "binaryOp Mult str int") => tm1
local macro_rules | `(tactic| walk_at "binaryOp Add str str") => rulx none `KXadd.add "XXD_" 3 'n' `(tactic| (first | exact ShortT.use (by with_reducible assumption) (by omega) | exact mul_len (by omega)))
local macro_rules | `(tactic| walk_at "subscriptTail") => rul (qsub `PySem.Value.int) `subS "AMAOOO_S!" 1 'n'
local macro_rules | `(tactic| walk_at "exec Assign cons ListComp") => rul none `assign_comp "SRRD_" 0 'n'
local macro_rules | `(tactic| walk_at "call ref") => rul (qcall `PySem.Value.ref (qn 169) "r") `out_use "AAAAAAAOO_!" 23 'n'
local macro_rules | `(tactic| walk_at "call ref") => rul (qcall `PySem.Value.ref (qn 174) "r") `walk_use "AAAAMAAAAOO_!" 15 'n'
section
variable {w : World} {s : Shared} {mg mb : Str → Option Value} {mean : ExcName → Option Value} {d u : Nat} {gd : Option (List Code)} {E : Value → Shared → Prop} {Q : Flow → Shared → Prop} {L fa : Addr} {cd : Value}
noncomputable def CEnd (P : Value → Shared → Prop) (y : Value) (s : Shared) : Prop := P y s
theorem as_end {M : Model} {A : Around} {x : Sem Value} {P : Value → Shared → Prop} {E : Value → Shared → Prop} {s : Shared} (h : wpAny M A x (CEnd P) E s) : wpAny M A x P E s := h
theorem intsN_at {vs : List Value} {l : List Nat} (h : IntsAre vs (intsN l)) {i : Nat} {v : Value} (hv : vs.toArray[i]? = some v) : ∃ p t, l[i]? = some p ∧ v = .int (p : Nat) t := by
  simp only [List.getElem?_toArray] at hv
  have hil := (List.getElem?_eq_some_iff.mp hv).1
  have hio : i < l.length := by have := h.length; unfold intsN at this; rw [List.length_map] at this; omega
  obtain ⟨t, ht⟩ := h.get i (l[i] : Nat) (by unfold intsN; rw [List.getElem?_map, List.getElem?_eq_getElem hio]; rfl)
  rw [ht] at hv
  exact ⟨l[i], t, List.getElem?_eq_getElem hio, (Option.some.inj hv).symm⟩
end
end Mine
local macro_rules | `(tactic| walk_at "eval Name") => do Mine.rul (some (← `(eval (Expr.Name _ _) (compEnvC _ _ _ _)))) `Mine.name_C "AArSD_!" 0 'n'
namespace Mine
theorem entry_fromkeys : entryFor table "dict.fromkeys" = some Builtin.«dict.fromkeys» := entryFor_of_fast (by kernel_rfl)
theorem entry_fromkeys_loop : entryFor table "dict.fromkeys.loop" = some Builtin.«dict.fromkeys.loop» := entryFor_of_fast (by kernel_rfl)
theorem plain_fromkeys : plainId "dict.fromkeys" = true := by decide +kernel
theorem plain_fromkeys_loop : plainId "dict.fromkeys.loop" = true := by decide +kernel
theorem check_fromkeys {l : Addr} : checkBoundCall "dict.fromkeys" ⟨[.type "dict", .ref l], []⟩ = pure () := by first | kernel_rfl | rfl
theorem typeCall_dict_0 : checkTypeCall "dict" ⟨[], []⟩ = pure () := by kernel_rfl
theorem newCall_dict_0 : checkBuiltinCall "dict.__new__" ⟨[.type "dict"], []⟩ = pure () := by kernel_rfl
section
variable {prog : Program} {w : World} {A : Around} {E : Value → Shared → Prop} {s : Shared}
theorem code_dict_new_0 {Q₁ : Value → Shared → Prop} (h : Q₁ (.ref s.heap.objs.size) { s with heap := s.heap.push { cls := .type "dict", data := .dict #[] } }) :
    codeAny (model prog w) A (.call (.builtin "dict.__new__") ⟨[.type "dict"], []⟩) (wants Q₁ E) s := by
  refine codeAny_call_builtin PySem.F.kt_plain_dict_new PySem.F.kt_entry_dict_new (wpAny_of_eq newCall_dict_0 ?_)
  have hsub := PySem.F.kt_sub_dict
  have hmro := PySem.F.kt_mro_dict
  obtain ⟨hp, g, d, tk, os⟩ := s
  unfold Builtin.«dict.__new__»
  wp_walk
  exact h
theorem call_dict_0 {Q : Value → Shared → Prop} (h : Q (.ref s.heap.objs.size) { s with heap := s.heap.push { cls := .type "dict", data := .dict #[] } }) :
    wpAny (model prog w) A (call (.type "dict") []) Q E s := by
  refine callType_codes (Q₁ := fun obj s₁ => obj = .ref s.heap.objs.size ∧ s₁ = { s with heap := s.heap.push { cls := .type "dict", data := .dict #[] } }) PySem.F.kt_called_dict typeCall_dict_0 PySem.F.entry_dict_init (code_dict_new_0 ⟨rfl, rfl⟩) ?_
  rintro obj s₁ ⟨rfl, rfl⟩
  have hT : Shared.TypeIs { s with heap := s.heap.push { cls := .type "dict", data := .dict #[] } } (.ref s.heap.objs.size) "dict" := ⟨_, Heap.get?_push_size _ rfl, rfl⟩
  refine ⟨hT, PySem.F.args_dict_init_1 _, ?_⟩
  unfold Builtin.«dict.__init__»
  refine wpAny_bind ?_
  unfold Builtin.Dict.selfAndRest
  refine wpAny_bind (wpAny_notOrdered_dict hT ?_)
  show wpAny _ _ (pure (s.heap.objs.size, [])) _ _ _
  refine wpAny_pure ?_
  show wpAny _ _ (Builtin.Dict.addKeywords s.heap.objs.size [] >>= _) _ _ _
  exact wpAny_bind (wpAny_pure (wpAny_pure ⟨rfl, h⟩))
theorem type_dict : isType (.type "dict") = pure true := by first | rfl | kernel_rfl | (unfold isType; rw [isSubtype_type]; kernel_rfl)
noncomputable def fk (ys : List Str) : List (Str × Value) := ys.foldl (fun acc y => stored acc y .none) []
noncomputable def boundO (id : String) (self : Value) : Obj := { cls := .type "builtin_function_or_method", data := .fields #[.builtin id, self] }
/-- a call of a bound builtin whose arguments stand -/
noncomputable def BdCall (prog : Program) (w : World) (A : Around) (E : Value → Shared → Prop) (Q : Value → Shared → Prop) (u : Addr) (first : List Value) (vs : List Value) (s₁ : Shared) : Prop :=
  (∃ id self, s₁.heap.get? u = some (boundO id self)) ∧ wpAny (model prog w) A (call (.ref u) (first ++ vs)) Q E s₁
theorem callWith_f {pos : Pos} {u : Addr} {first : List Value} {args : List (Bool × Sem Value)} {Q : Value → Shared → Prop} (hplain : args.any (·.1) = false)
    (h : wpAny (model prog w) A (evalArgs (.ref u) true args []) (fun x s₁ => (∃ id self, s₁.heap.get? u = some (boundO id self)) ∧ wpAny (model prog w) A (call (.ref u) (first ++ x.pos) x.kw) Q E s₁) E s) : wpAny (model prog w) A (callWith pos (.ref u) first args []) Q E s := by
  unfold callWith
  refine wpAny_bind (wpAny_holding (wpAny_mono h (fun x s₁ h₁ => wpAny_bind (wpAny_standAt ?_)) fun _ _ x => x))
  obtain ⟨⟨id, self, ho⟩, hcall⟩ := h₁
  simp only [hplain, List.any_nil, Bool.or_false]
  refine wpAny_bind (m := keeperOf (.ref u)) ?_
  unfold keeperOf
  refine wpAny_bind (wpAny_load ho ?_)
  simp only [boundO, show (Value.type "builtin_function_or_method" != Value.type "method") = true by decide, show (Value.type "builtin_function_or_method" == Value.type "builtin_function_or_method" || Value.type "builtin_function_or_method" == Value.type "method-wrapper") = true by decide, if_true]
  refine wpAny_pure ?_
  exact wpAny_bind (wpAny_mono hcall (fun r s₂ hr => wpAny_bind (wpAny_holding (wpAny_point (wpAny_pure hr)))) fun _ _ x => x)
theorem callWith_bd {pos : Pos} {u : Addr} {first : List Value} {env : Env} {e : Expr} {rest : List Expr} {Q : Value → Shared → Prop}
    (h : wpAny (model prog w) A (spliced (backTo pos (starEach (e :: rest) env))) (BdCall prog w A E Q u first) E s)
    (he : starEach (e :: rest) env = (false, eval e env) :: starEach rest env := by rfl) (hplain : (backTo pos (starEach rest env)).any (·.1) = false := by rfl) :
    wpAny (model prog w) A (callWith pos (.ref u) first (backTo pos (starEach (e :: rest) env)) []) Q E s := by
  rw [he] at h ⊢
  refine callWith_f (by show (false || (backTo pos (starEach rest env)).any (·.1)) = false; rw [hplain]; rfl) ?_
  exact evalArgs_plain h
end
end Mine
namespace Mine
theorem stored_keys (kvs : List (Str × Value)) (k : Str) (v : Value) : (stored kvs k v).map (·.1) = if k ∈ kvs.map (·.1) then kvs.map (·.1) else kvs.map (·.1) ++ [k] := by
  unfold stored
  by_cases h : kvs.any (fun kv => kv.1 = k) = true
  · obtain ⟨p, hp, e⟩ := List.any_eq_true.mp h
    have e : p.1 = k := by simpa using e
    rw [if_pos h, if_pos (List.mem_map.mpr ⟨p, hp, e⟩), List.map_map]
    refine List.map_congr_left fun q _ => ?_
    show (if q.1 = k then (q.1, v) else q).1 = q.1
    by_cases z : q.1 = k
    · rw [if_pos z]
    · rw [if_neg z]
  · have hn : k ∉ kvs.map (·.1) := fun hm => by
      obtain ⟨p, hp, e⟩ := List.mem_map.mp hm
      exact h (List.any_eq_true.mpr ⟨p, hp, by simpa using e⟩)
    rw [if_neg h, if_neg hn, List.map_append]
    rfl
theorem fk_from {n : Nat} {T : Nat → Str} (inj : ∀ i j, i < n → j < n → T i = T j → i = j) : ∀ (l S : List Nat) (kvs : List (Str × Value)), (∀ x ∈ l, x < n) → (∀ x ∈ S, x < n) → (∀ y, y ∈ kvs.map (·.1) ↔ y ∈ S.map T) →
    ((l.map T).foldl (fun acc y => stored acc y .none) kvs).map (·.1) = kvs.map (·.1) ++ (Plain.ded S l).map T := by
  intro l
  induction l with
  | nil => intro S kvs _ _ _; simp [Plain.ded]
  | cons a l ih =>
    intro S kvs hl hS hk
    have ha := hl a (.head _)
    have hmem : T a ∈ kvs.map (·.1) ↔ a ∈ S := by
      rw [hk]
      constructor
      · intro h
        obtain ⟨b, hb, e⟩ := List.mem_map.mp h
        exact inj b a (hS b hb) ha e ▸ hb
      · exact fun h => List.mem_map.mpr ⟨a, h, rfl⟩
    simp only [List.map_cons, List.foldl_cons, Plain.ded]
    by_cases h : a ∈ S
    · rw [if_pos h, ih S _ (fun x hx => hl x (.tail _ hx)) hS (by intro y; rw [stored_keys, if_pos (hmem.mpr h)]; exact hk y), stored_keys, if_pos (hmem.mpr h)]
    · have hn : ¬ T a ∈ kvs.map (·.1) := fun z => h (hmem.mp z)
      rw [if_neg h, ih (a :: S) _ (fun x hx => hl x (.tail _ hx)) (fun x hx => by
        rcases List.mem_cons.mp hx with rfl | hx
        · exact ha
        · exact hS x hx) (by
          intro y
          rw [stored_keys, if_neg hn, List.mem_append, hk, List.mem_singleton, List.map_cons, List.mem_cons]
          exact Or.comm), stored_keys, if_neg hn]
      simp
/-- the texts once each are the places' once each -/
theorem fk_map {n : Nat} {T : Nat → Str} (inj : ∀ i j, i < n → j < n → T i = T j → i = j) {l : List Nat} (hl : ∀ x ∈ l, x < n) : (fk (l.map T)).map (·.1) = (Plain.ded [] l).map T := by
  have := fk_from inj l [] [] hl (fun x hx => by cases hx) (fun y => by simp)
  simpa [fk] using this
section
variable {prog : Program} {w : World} {A : Around} {E : Value → Shared → Prop} {s : Shared} {h₀ : Heap} {L : Addr} {m : Str → Option Value} {news : List (Addr × Obj)}
theorem list_keys {dd : Addr} {o : Obj} {kvs : List (Str × Value)} {Q : Value → Shared → Prop} (hh : A.handled = none) (F : Fr h₀ L s.heap m) (N : News h₀ L s.heap news) (hp : (dd, o) ∈ news) (hd : o.IsDictOf (strKind prog w) kvs) (lo : (dd == sysModules) = false) (hz : kvs.length ≤ 1000)
    (h : ∀ B c h' tk vs, Fr h₀ L h' m → News h₀ L h' ((B, listOf (List.toArray vs) c) :: news) → (∀ q ∈ news, @LT.lt Nat _ q.1 B) → StrsAre vs (kvs.map (·.1)) → Q (.ref B) { s with heap := h', toks := tk }) :
    wpAny (model prog w) A (call (.type "list") [.ref dd]) Q E s := by
  have hD := kda_dict N hp hd
  obtain ⟨ep, hat⟩ := hD.dictAt
  refine kdl_N (kdl_dict (knd := strKind prog w) (kvs := kvs) (ep := ep) lo) hh F N hat (by rw [sizeLine_eq]; omega) fun B c h' tk vs F' N' l1 hl hv => ?_
  refine h B c h' tk vs F' N' l1 (kdy_strs (by rw [hl, List.length_map]) fun j v hj => ?_)
  obtain ⟨k, x, hx, hk⟩ := hv j v hj
  obtain ⟨t, rfl⟩ := Value.isStrOf_shape hk
  exact ⟨k, by rw [List.getElem?_map, hx]; rfl, t, rfl⟩
theorem readsAll_strs {h : Heap} : ∀ {vs : List Value} {ns : List Str}, StrsAre vs ns → ReadsAll h vs (ns.map PyData.str) []
  | _, _, .nil => .nil
  | _, _, .cons k t r => by
    have := ReadsAll.cons (Reads.str (h := h) k t) (readsAll_strs (h := h) r)
    simpa using this
theorem reads_strs {h : Heap} {a : Addr} {vs : List Value} {ns : List Str} (hl : h.IsList a vs.toArray) (hi : StrsAre vs ns) : Reads h (.ref a) (.list (ns.map PyData.str)) [a] := by
  obtain ⟨o, ho, hc, n, hd⟩ := hl
  exact Reads.list ho hc hd (by simpa using readsAll_strs hi)
theorem canLay_strs : ∀ ns : List Str, (∀ x ∈ ns, PyData.strOk x = true) → PyData.canLayAll0 (ns.map PyData.str) = true
  | [], _ => by simp [PyData.canLayAll0]
  | n :: r, h => by simp [PyData.canLayAll0, PyData.canLay0, canLay_strs r fun x hx => h x (.tail _ hx), h n (.head _)]
theorem depth_strs : ∀ ns : List Str, PyData.depthAll (ns.map PyData.str) ≤ 1
  | [] => by simp [PyData.depthAll]
  | n :: r => by
    have := depth_strs r
    simp only [List.map_cons, PyData.depthAll, PyData.depth]
    omega
theorem shaped_strs (ns : List Str) (hok : ∀ x ∈ ns, PyData.strOk x = true) : PySem.SeqAt.shaped (.list (ns.map PyData.str)) = true := by
  have h1 := depth_strs ns
  have h2 : PyData.depth (.list (ns.map PyData.str)) ≤ 64 := by simp only [PyData.depth]; omega
  show (PyData.canLay0 (.list (ns.map PyData.str)) && decide (PyData.depth (.list (ns.map PyData.str)) ≤ 64)) = true
  rw [Bool.and_eq_true]
  exact ⟨by simp only [PyData.canLay0]; exact canLay_strs ns hok, decide_eq_true h2⟩
theorem noMix_strs : ∀ ns ms : List Str, PySem.SeqAt.noMixAll (ns.map PyData.str) (ms.map PyData.str) = true
  | [], [] => by simp [PySem.SeqAt.noMixAll]
  | [], _ :: _ => by simp [PySem.SeqAt.noMixAll]
  | _ :: _, [] => by simp [PySem.SeqAt.noMixAll]
  | _ :: r, _ :: q => by simp [PySem.SeqAt.noMixAll, PySem.SeqAt.noMix, noMix_strs r q]
theorem same_strs : ∀ ns : List Str, PySem.Spec.sameAll (ns.map PyData.str) (ns.map PyData.str) = true
  | [] => by simp [PySem.Spec.sameAll]
  | n :: r => by simp [PySem.Spec.sameAll, PySem.Spec.same, same_strs r]
theorem ne_strs {a b : Addr} {vs us : List Value} {ns : List Str} {Q : Value → Shared → Prop} (hl : s.heap.IsList a vs.toArray) (hi : StrsAre vs ns) (hl' : s.heap.IsList b us.toArray) (hi' : StrsAre us ns) (hok : ∀ x ∈ ns, PyData.strOk x = true) (hu : A.units + 64 < cLine)
    (h : Q (.bool false) s) : wpAny (model prog w) A (compareOp .NotEq (.ref a) (.ref b)) Q E s :=
  ne_dataH_same (reads_strs hl hi) (reads_strs hl' hi') (shaped_strs ns hok) (shaped_strs ns hok) hu (by simp only [PySem.SeqAt.noMix]; exact noMix_strs ns ns) (by simp only [PySem.Spec.same]; rw [same_strs]; exact h)
end
end Mine
namespace Mine
section
variable {prog : Program} {w : World} {A : Around} {E : Value → Shared → Prop} {s : Shared}
theorem set_loop {I l d : Addr} {items : Array Value} {ys : List Str} {R : Result → Shared → Prop} (hh : A.handled = none) (hi : StrsAre items.toList ys) (hb : items.size + 1 < scanBound) (n1 : l ≠ I) (n2 : d ≠ I) (n3 : l ≠ d) :
    ∀ (k i : Nat) (s : Shared) (c : Nat), items.size - i = k → i ≤ items.size → s.heap.IsListIter I l i → s.heap.IsList l items → s.heap.SetOf (strKind prog w) d (fun k => decide (k ∈ ys.take i)) c → c ≤ i →
    (∀ h' tk c, h'.SetOf (strKind prog w) d (fun k => decide (k ∈ ys)) c → c ≤ items.size → (∀ b o, b ≠ I → b ≠ d → s.heap.get? b = some o → h'.get? b = some o) → R (.ok (.ret .none)) { s with heap := h', toks := tk }) →
    codeAny (model prog w) A (.builtin "set.update.loop" ⟨[.ref d, .ref I], []⟩) R s := by
  have W := Walks.list (prog := prog) (w := w) (A := A.in1) hh I l n1 items
  have hlen : ys.length = items.size := by rw [← Array.length_toList]; exact hi.length.symm
  intro k
  induction k with
  | zero =>
    intro i s c hk hin hIt hl hd hkl hR
    obtain rfl : i = items.size := by omega
    refine codeAny_builtin PyProof.Rows.F.entry_set_update_loop ?_
    rw [Around.under_plainId PyProof.Rows.F.plain_set_update_loop _]
    show wpAny _ A.in1 (pyNext (.ref I) >>= _) _ _ s
    refine wpAny_bind (W.done s _ _ ⟨hIt, hl⟩ fun h' tk hk' => ?_)
    show wpAny _ A.in1 (ret Value.none) _ _ _
    refine wpAny_pure (hR h' tk c ?_ hkl fun b o hb1 hb2 e => hk' b o (fun z => hb1 (List.mem_singleton.mp z)) e)
    rw [List.take_of_length_le (by omega)] at hd
    obtain ⟨o, es, ep, t, ho, r⟩ := hd
    exact ⟨o, es, ep, t, hk' _ _ (fun z => n2 (List.mem_singleton.mp z)) ho, r⟩
  | succ k ih =>
    intro i s c hk hin hIt hl hd hkl hR
    have hlt : i < items.size := by omega
    refine codeAny_builtin PyProof.Rows.F.entry_set_update_loop ?_
    rw [Around.under_plainId PyProof.Rows.F.plain_set_update_loop _]
    show wpAny _ A.in1 (pyNext (.ref I) >>= _) _ _ s
    refine wpAny_bind (W.item i s _ _ hlt ⟨hIt, hl⟩ fun v h1 tk hv st hk1 => ?_)
    obtain ⟨t, rfl⟩ : ∃ t, v = .str (ys[i]'(by omega)) t := by
      obtain ⟨t, ht⟩ := hi.get i _ (List.getElem?_eq_getElem (by omega))
      rw [Array.getElem?_toList] at ht
      rw [hv] at ht
      exact ⟨t, Option.some.inj ht⟩
    have hd1 : h1.SetOf (strKind prog w) d (fun k => decide (k ∈ ys.take i)) c := by
      obtain ⟨o, es, ep, tb, ho, r⟩ := hd
      exact ⟨o, es, ep, tb, hk1 _ _ (fun z => n2 (List.mem_singleton.mp z)) ho, r⟩
    show wpAny _ A.in1 (holding [Value.str (ys[i]'(by omega)) t] (setAdd d (.str (ys[i]'(by omega)) t)) >>= _) _ _ _
    refine wpAny_bind (wpAny_holding ?_)
    unfold setAdd
    refine wpAny_holding ?_
    refine wpAny_bind ((strKind prog w).pyHash (k := ys[i]'(by omega)) (strKind_is _ _ _ _) ?_)
    refine wpAny_setAddHashed_of (knd := strKind prog w) (s := { s with heap := h1, toks := tk + 1 }) (strKind_is _ _ _ _) rfl hd1 (by omega) fun h2 hs2 hd2 => ?_
    have hc : (if decide ((ys[i]'(by omega)) ∈ ys.take i) = true then c else c + 1) ≤ i + 1 := by split <;> omega
    have hd3 : h2.SetOf (strKind prog w) d (fun k => decide (k ∈ ys.take (i + 1))) (if decide ((ys[i]'(by omega)) ∈ ys.take i) = true then c else c + 1) := by
      have e : (fun k => decide (k ∈ ys.take (i + 1))) = fun k => (decide (k ∈ ys.take i) || decide (k = ys[i]'(by omega))) := by
        funext k
        rw [List.take_add_one, List.getElem?_eq_getElem (by omega)]
        simp only [List.mem_append, Option.toList_some, List.mem_singleton, Bool.decide_or]
      rw [e]
      exact hd2
    refine wpAny_pure ⟨plainId_quiet PyProof.Rows.F.plain_set_update_loop _, ih (i + 1) _ _ (by omega) hlt ?_ ?_ hd3 hc fun h' tk' c' hd' hc' hk' => ?_⟩
    · obtain ⟨o, ho, r⟩ := st.1
      exact ⟨o, hs2.extBut _ _ n2.symm ho, r⟩
    · obtain ⟨o, ho, r⟩ := st.2
      exact ⟨o, hs2.extBut _ _ n3 ho, r⟩
    · exact hR h' tk' c' hd' hc' fun b o hb1 hb2 e => hk' b o hb1 hb2 (hs2.extBut _ _ hb2 (hk1 b o (fun z => hb1 (List.mem_singleton.mp z)) e))
set_option maxHeartbeats 3200000 in
theorem call_set_strs {l : Addr} {items : Array Value} {ys : List Str} {Q : Value → Shared → Prop} (hh : A.handled = none) (hl : s.heap.IsList l items) (hi : StrsAre items.toList ys) (hb : items.size + 1 < scanBound)
    (h : ∀ h' tk c, h'.SetOf (strKind prog w) s.heap.objs.size (fun k => decide (k ∈ ys)) c → c ≤ items.size → (∀ b o, s.heap.get? b = some o → h'.get? b = some o) → Q (.ref s.heap.objs.size) { s with heap := h', toks := tk }) :
    wpAny (model prog w) A (call (.type "set") [.ref l]) Q E s := by
  obtain ⟨c, tl, hmro⟩ := PySem.F.called_set.mro
  have hmade := PySem.F.called_set.made
  have hsub := PySem.F.called_set.sub
  refine wpAny_call (codeAny_of_tree ?_)
  show wpAny _ _ (callAny (.type "set") _) _ _ _
  refine wpAny_pure ⟨Code.quiet_builtin _ (by decide +kernel), codeAny_builtin PySem.F.entry_type_call ?_⟩
  rw [Around.under_plain (weight_type_call_type "set" [.ref l] []) rfl]
  have h1 := PySem.F.called_set.notType
  have h2 := PySem.F.called_set.canCreate
  have hct := PySem.F.typeCall_set_1 (.ref l)
  repeat (any_goals (first | assumption | wp_step))
  refine codeAny_mono (code_set_new_1 (.ref l) (E := E) (Q₁ := fun obj s₁ => ∃ led : Bool, obj = .ref s.heap.objs.size ∧ s₁ = { s with heap := s.heap.push { cls := .type "set", dict := none, data := .set #[] 0 (.fresh 0 0 led) } }) fun led => ⟨led, rfl, rfl⟩) fun r s₁ hr => ?_
  cases r with
  | error e => exact hr
  | ok fl =>
    cases fl with
    | ret obj =>
      obtain ⟨led, rfl, rfl⟩ := hr
      have hS : (s.heap.push { cls := .type "set", dict := none, data := .set #[] 0 (.fresh 0 0 led) }).get? s.heap.objs.size = some { cls := .type "set", dict := none, data := .set #[] 0 (.fresh 0 0 led) } := Heap.get?_push_size _ rfl
      have hT : Shared.TypeIs { s with heap := s.heap.push { cls := .type "set", dict := none, data := .set #[] 0 (.fresh 0 0 led) } } (.ref s.heap.objs.size) "set" := ⟨_, hS, rfl⟩
      have hli := PySem.F.called_set.init.lookup
      have hbi := PySem.F.called_set.init.bind (.ref s.heap.objs.size)
      repeat (any_goals (first | assumption | wp_step))
      refine codeAny_mono (codeAny_call_builtin (R := wants (fun r s₂ => r = .none ∧ ∃ h' tk c, s₂ = { s with heap := h', toks := tk } ∧
          h'.SetOf (strKind prog w) s.heap.objs.size (fun k => decide (k ∈ ys)) c ∧ c ≤ items.size ∧
          (∀ b o, s.heap.get? b = some o → h'.get? b = some o)) E) PySem.F.called_set.init.plain PySem.F.entry_set_init (check_set_init_1 hT ?_)) fun r₂ s₂ hr₂ => ?_
      · obtain ⟨ol, hol, hcl, nl, hdl⟩ := hl
        obtain ⟨ocls, odict, odata, oslots⟩ := ol
        simp only at hcl hdl
        subst hcl; subst hdl
        have hol' : (s.heap.push { cls := .type "set", dict := none, data := .set #[] 0 (.fresh 0 0 led) }).get? l = some { cls := .type "list", dict := odict, data := .seq items nl, slots := oslots } := Heap.get?_push_of_some _ hol
        have hsls := PySem.F.sub_list_set
        have hslf := PySem.F.sub_list_frozenset
        have hne : (Value.type "list" == Value.type "dict") = false := by decide
        have hl1 : (s.heap.push { cls := .type "set", dict := none, data := .set #[] 0 (.fresh 0 0 led) }).IsList l items := ⟨_, hol', rfl, nl, rfl⟩
        unfold Builtin.«set.__init__» noKeywords Builtin.Frozenset.updateFrom
        generalize hPI : pyIter = PI
        wp_walk
        subst hPI
        refine wpAny_pyIter_list hl1 ?_
        refine wpAny_bind (wpAny_runValue ?_)
        have hlS : l < s.heap.objs.size := Heap.lt_size hol
        have hsz : (s.heap.push { cls := .type "set", dict := none, data := .set #[] 0 (.fresh 0 0 led) }).objs.size = s.heap.objs.size + 1 := Heap.size_push ..
        refine set_loop (ys := ys) (d := s.heap.objs.size) (l := l) (by simp [hh]) hi hb ?_ ?_ (Nat.ne_of_lt hlS) items.size 0 _ 0 (Nat.sub_zero _) (Nat.zero_le _) ⟨_, Heap.get?_push_size _ rfl, rfl, rfl⟩ (hl1.push _) ?_ (Nat.le_refl _) fun h' tk c hd hc hk => ?_
        · show l ≠ Array.size _
          rw [hsz]; exact Nat.ne_of_lt (Nat.lt_succ_of_lt hlS)
        · show s.heap.objs.size ≠ Array.size _
          rw [hsz]; exact Nat.ne_of_lt (Nat.lt_succ_self _)
        · have hget : ((s.heap.push { cls := .type "set", dict := none, data := .set #[] 0 (.fresh 0 0 led) }).push { cls := .type "list_iterator", data := .fields #[.ref l, .int 0 0] }).get? s.heap.objs.size
              = some { cls := .type "set", dict := none, data := .set #[] 0 (.fresh 0 0 led) } := Heap.get?_push_of_some _ hS
          have e0 : (fun k => decide (k ∈ ys.take 0)) = fun _ => false := by funext k; simp
          rw [e0]
          exact (PyProof.Rows.setObjOf_fresh (knd := strKind prog w) led).setOf hget (by unfold scanBound; omega)
        · show wpAny _ _ _ _ _ _
          refine wpAny_pure ?_
          show wpAny _ _ (ret Value.none) _ _ _
          refine wpAny_pure ⟨rfl, h', tk, c, rfl, hd, hc, fun b o e => hk b o ?_ (Nat.ne_of_lt (Heap.lt_size e)) (Heap.get?_push_of_some _ (Heap.get?_push_of_some _ e))⟩
          show b ≠ Array.size _
          rw [hsz]; exact Nat.ne_of_lt (Nat.lt_succ_of_lt (Heap.lt_size e))
      · cases r₂ with
        | error e => exact hr₂
        | ok fl₂ =>
          cases fl₂ with
          | ret r =>
            obtain ⟨rfl, h', tk, c, rfl, hS', hc, hk'⟩ := hr₂
            repeat (any_goals (first | assumption | wp_step))
            exact h _ _ _ hS' hc hk'
          | _ => exact hr₂.elim
    | _ => exact hr.elim
end
end Mine
namespace Mine
noncomputable abbrev tl (x : Str) : List Nat := x.cps.toList
theorem str_eq {x y : Str} (h : tl x = tl y) : x = y := by
  apply Str.ext'
  exact Array.toList_inj.mp h
theorem tl_add (x y : Str) : tl (x ++ y) = tl x ++ tl y := by
  show (x.cps ++ y.cps).toList = _
  simp
theorem tl_mul (k : Nat) : tl (Txt.mul (Str.ofString "/") (k : Int)) = List.replicate k 47 := by
  have key : ∀ (n : Nat) (acc : Array Nat), ((List.replicate n (#[47] : Array Nat)).foldl (· ++ ·) acc).toList = acc.toList ++ List.replicate n 47 := by
    intro n
    induction n with
    | zero => intro acc; simp
    | succ n ih => intro acc; rw [List.replicate_succ, List.foldl_cons, ih, List.replicate_succ]; simp
  unfold Txt.mul
  by_cases h1 : (k : Int) < 1
  · obtain rfl : k = 0 := by omega
    rw [if_pos h1]; rfl
  · rw [if_neg h1]
    by_cases h2 : ((k : Int) == 1 || (Str.ofString "/").length == 0) = true
    · have : k = 1 := by
        have h3 : ((Str.ofString "/").length == 0) = false := by decide +kernel
        rw [h3, Bool.or_false, beq_iff_eq] at h2
        omega
      subst this
      rw [if_pos h2]; decide +kernel
    · rw [if_neg h2]
      have hc : (Str.ofString "/").cps = #[47] := by decide +kernel
      rw [hc]
      simpa using key k #[]
theorem slash_cps : slash.cps = #[47] := by decide +kernel
theorem goes47 (c : Nat) : slash.cps.contains c = (c == 47) := by rw [slash_cps]; exact Bool.eq_iff_iff.mpr (by simp)
theorem last_app {a b : List Nat} (hb : b ≠ []) : (a ++ b).getLast? = b.getLast? := by rw [List.getLast?_append, List.getLast?_eq_some_getLast hb]; rfl
theorem takeWhile_rep {l : List Nat} (h : l = [] ∨ l.head? ≠ some 47) (k : Nat) : ((List.replicate k 47 ++ l).takeWhile fun c => c == 47).length = k := by
  induction k with
  | zero =>
    rw [List.replicate_zero, List.nil_append]
    cases l with
    | nil => rfl
    | cons a l =>
      rcases h with h | h
      · cases h
      · have : (a == 47) = false := by
          simp only [List.head?_cons, ne_eq, Option.some.injEq] at h
          simpa using h
        simp [List.takeWhile_cons, this]
  | succ k ih => rw [List.replicate_succ, List.cons_append, List.takeWhile_cons_of_pos (by rfl), List.length_cons, ih]
/-- stripping the slashes behind -/
theorem rstrip_tl {x : Str} {a : List Nat} {k : Nat} (hx : tl x = a ++ List.replicate k 47) (ha : a = [] ∨ a.getLast? ≠ some 47) : tl (Txt.rstripChars x slash) = a := by
  have hgo : slash.cps.contains = fun c => c == 47 := funext goes47
  have hlen : x.length = a.length + k := by
    show x.cps.size = _
    rw [← Array.length_toList]
    show (tl x).length = _
    rw [hx]; simp
  have htw : ((x.cps.toList.drop 0).reverse.takeWhile slash.cps.contains).length = k := by
    rw [hgo, List.drop_zero]
    show ((tl x).reverse.takeWhile _).length = k
    rw [hx, List.reverse_append, List.reverse_replicate]
    refine takeWhile_rep ?_ k
    rcases ha with rfl | ha
    · exact .inl rfl
    · right; rw [List.head?_reverse]; exact ha
  unfold Txt.rstripChars Txt.stripBy
  have hlo : stripLo slash.cps.contains false x = 0 := rfl
  have hhi : stripHi slash.cps.contains true x 0 = a.length := by
    show x.length - _ = _
    rw [htw, hlen]; omega
  by_cases h : stripSame slash.cps.contains false true x = true
  · rw [if_pos h]
    unfold stripSame at h
    rw [hlo, hhi] at h
    simp only [beq_self_eq_true, Bool.true_and, beq_iff_eq] at h
    have : k = 0 := by omega
    subst this
    rw [hx]; simp
  · rw [if_neg h]
    unfold PySem.stripped
    rw [hlo, hhi]
    show (Builtin.Str.strSub x 0 a.length).cps.toList = a
    rw [StrLaws.strSub_toList, List.drop_zero, Nat.sub_zero]
    show (tl x).take a.length = a
    rw [hx, List.take_left' rfl]
theorem at_iff {x : Str} {i : Nat} : StrLaws.At x (Str.ofString "/") x.length i ↔ (tl x)[i]? = some 47 := by
  have hl : (Str.ofString "/").length = 1 := by decide +kernel
  have hc : (Str.ofString "/").cps.toList = [47] := by decide +kernel
  have hs : x.length = (tl x).length := by show x.cps.size = _; rw [Array.length_toList]
  unfold StrLaws.At
  rw [StrLaws.subAt_eq, hl, hc, hs]
  show i + 1 ≤ (tl x).length ∧ (((tl x).drop i).take 1 == [47]) = true ↔ _
  rw [beq_iff_eq]
  constructor
  · rintro ⟨h1, h2⟩
    rw [List.drop_eq_getElem_cons (by omega)] at h2
    simp only [List.take_succ_cons, List.take_zero, List.cons.injEq, and_true] at h2
    rw [List.getElem?_eq_getElem (by omega), h2]
  · intro h
    obtain ⟨h1, h2⟩ := List.getElem?_eq_some_iff.mp h
    refine ⟨h1, ?_⟩
    rw [List.drop_eq_getElem_cons h1, h2]
    simp
/-- the head of a text: what stands up to its last slash -/
theorem cut_tl {x : Str} {a e : List Nat} (hx : tl x = a ++ e) (ha : a = [] ∨ a.getLast? = some 47) (he : ∀ c ∈ e, c ≠ 47) : tl (cutOf x) = a := by
  have hrf : Txt.rfind x (Str.ofString "/") + 1 = (a.length : Int) := by
    rcases rfind_whole x (Str.ofString "/") with ⟨h1, h2⟩ | ⟨i, h1, h2, h3⟩
    · rcases ha with rfl | ha
      · rw [h1]; rfl
      · exfalso
        have hp : 0 < a.length := by cases a with | nil => cases ha | cons _ _ => simp
        refine h2 (a.length - 1) (at_iff.mpr ?_)
        rw [hx, List.getElem?_append_left (by omega), ← List.getLast?_eq_getElem?]
        exact ha
    · rw [h1]
      have hi := at_iff.mp h2
      rw [hx] at hi
      have hia : i < a.length := by
        rcases Nat.lt_or_ge i a.length with z | z
        · exact z
        · rw [List.getElem?_append_right z] at hi
          exact absurd rfl (he 47 (List.mem_of_getElem? hi))
      rcases Nat.lt_or_ge (i + 1) a.length with z | z
      · exfalso
        rcases ha with rfl | ha
        · simp at hia
        · refine h3 (a.length - 1) (by omega) (at_iff.mpr ?_)
          rw [hx, List.getElem?_append_left (by omega), ← List.getLast?_eq_getElem?]
          exact ha
      · omega
  unfold cutOf
  rw [hrf]
  have hlen : (a.length : Int) ≤ x.cps.toList.length := by
    have h9 : (tl x).length = a.length + e.length := by rw [hx, List.length_append]
    show (a.length : Int) ≤ ((tl x).length : Int)
    omega
  have h := slice_closes_to (x := x) (j := (a.length : Int)) ⟨by omega, hlen⟩
  have h : Txt.slice x none (some (a.length : Int)) = ⟨((x.cps.toList.drop (0 : Int).toNat).take ((a.length : Int) - 0).toNat).toArray⟩ := eq_of_beq h
  rw [h]
  show ((tl x).drop 0).take _ = a
  rw [hx, List.drop_zero]
  simp
theorem good_tl {e : Str} (h : goodEl e = true) : 0 < (tl e).length ∧ (∀ c ∈ tl e, c ≠ 47) ∧ ∀ c ∈ tl e, c < 1114112 := by
  unfold goodEl at h
  simp only [Bool.and_eq_true, decide_eq_true_eq, List.all_eq_true, bne_iff_ne, ne_eq] at h
  exact ⟨by rw [Array.length_toList]; exact h.1.1.1, h.1.2, h.2⟩
section
variable {n : Nat} {T : Nat → Str} {U D : Nat → Nat}
theorem TreeOk.last (h : TreeOk n T U D) {p : Nat} (hp : 0 < p) (hn : p < n) : (tl (T p)).getLast? ≠ some 47 ∧ tl (T p) ≠ [] := by
  obtain ⟨_, _, _, k, e, he, _, _, _, r⟩ := h.node p hp hn
  obtain ⟨g1, g2, _⟩ := good_tl he
  rw [r, tl_add]
  have hne : tl e ≠ [] := fun z => by rw [z] at g1; simp at g1
  refine ⟨?_, fun z => hne (List.append_eq_nil_iff.mp z).2⟩
  rw [last_app hne]
  intro z
  exact g2 47 (List.mem_of_getLast? z) rfl
/-- a place's name stripped is its text -/
theorem TreeOk.strip (h : TreeOk n T U D) {p : Nat} (hp : 0 < p) (hn : p < n) (k : Nat) : Txt.rstripChars (T p ++ Txt.mul (Str.ofString "/") (k : Int)) slash = T p :=
  str_eq (rstrip_tl (by rw [tl_add, tl_mul]) (.inr (h.last hp hn).1))
theorem TreeOk.head (h : TreeOk n T U D) {p : Nat} (hp : 0 < p) (hn : p < n) : (U p ≠ 0 → headOf (T p) = T (U p)) ∧ (U p = 0 → (Txt.rstripChars (headOf (T p)) slash).length = 0) := by
  obtain ⟨u1, _, _, k, e, he, k0, _, k1, r⟩ := h.node p hp hn
  obtain ⟨g1, g2, _⟩ := good_tl he
  obtain ⟨kk, rfl⟩ : ∃ kk : Nat, k = (kk : Int) := ⟨k.toNat, by omega⟩
  have hx : tl (T p) = (tl (T (U p)) ++ List.replicate kk 47) ++ tl e := by rw [r, tl_add, tl_add, tl_mul]
  have hcut : tl (cutOf (T p)) = tl (T (U p)) ++ List.replicate kk 47 := by
    refine cut_tl hx ?_ g2
    cases kk with
    | zero =>
      rcases k1 with z | z
      · left; rw [z, h.root.1]; rfl
      · omega
    | succ kk => right; rw [List.replicate_succ', ← List.append_assoc, last_app (by simp)]; rfl
  have hlen : (cutOf (T p)).length = (tl (T (U p))).length + kk := by
    show (cutOf (T p)).cps.size = _
    rw [← Array.length_toList]
    show (tl (cutOf (T p))).length = _
    rw [hcut]; simp
  have zero : ∀ {y : Str}, tl y = [] → y.length = 0 := fun {y} e => by show y.cps.size = 0; rw [← Array.length_toList]; show (tl y).length = 0; rw [e]; rfl
  constructor
  · intro hu
    have hul := h.last (Nat.pos_of_ne_zero hu) (Nat.lt_trans u1 hn)
    have hpos : 0 < (tl (T (U p))).length := List.length_pos_iff.mpr hul.2
    unfold headOf
    rw [if_neg (by omega)]
    have hne : (cutOf (T p) != Txt.mul (Str.ofString "/") ((cutOf (T p)).length : Int)) = true := by
      rw [bne_iff_ne]
      intro z
      have z := congrArg tl z
      rw [tl_mul, hcut, hlen] at z
      have hm : ∀ c ∈ tl (T (U p)), c = 47 := fun c hc => (List.mem_replicate.mp (z ▸ List.mem_append_left _ hc)).2
      refine hul.1 ?_
      rw [List.getLast?_eq_some_getLast hul.2, hm _ (List.getLast_mem hul.2)]
    rw [if_pos hne]
    exact str_eq (rstrip_tl hcut (.inr hul.1))
  · intro hu
    have ht : tl (T (U p)) = [] := by rw [hu, h.root.1]
    rw [ht, List.nil_append] at hcut
    refine zero ?_
    have hh : tl (headOf (T p)) = List.replicate kk 47 := by
      unfold headOf
      by_cases z : ((cutOf (T p)).length : Int) = 0
      · rw [if_pos z, hcut]
      · rw [if_neg z]
        have hne : ¬ (cutOf (T p) != Txt.mul (Str.ofString "/") ((cutOf (T p)).length : Int)) = true := by
          rw [bne_iff_ne]
          refine fun q => q (str_eq ?_)
          rw [tl_mul, hcut, hlen, ht]
          simp
        rw [if_neg hne, hcut]
    exact rstrip_tl (a := []) (by rw [hh]; rfl) (.inl rfl)
/-- what _ancestry tells of a place: the texts of its way up -/
theorem TreeOk.anc (h : TreeOk n T U D) : ∀ p, 0 < p → p < n → Anc (T p) ((Plain.up U p).map T) := by
  have hU : Plain.Up n U := fun i h1 h2 => (h.node i h1 h2).1
  intro p
  induction p using Nat.strongRecOn with
  | ind p ih =>
    intro hp hn
    have hs : Txt.rstripChars (T p) slash = T p := str_eq (rstrip_tl (k := 0) (by simp) (.inr (h.last hp hn).1))
    have hne : (T p).length ≠ 0 := by
      show (T p).cps.size ≠ 0
      rw [← Array.length_toList]
      intro z
      exact (h.last hp hn).2 (List.length_eq_zero_iff.mp z)
    rw [Plain.up_eq hU hp hn, List.map_cons]
    refine .cons (by rw [hs]; exact hne) ?_
    by_cases z : U p = 0
    · rw [z, Plain.up_zero]
      exact .nil ((h.head hp hn).2 z)
    · rw [(h.head hp hn).1 z]
      exact ih (U p) (hU p hp hn) (Nat.pos_of_ne_zero z) (Nat.lt_trans (hU p hp hn) hn)
theorem TreeOk.ok (h : TreeOk n T U D) : ∀ p, p < n → PyData.strOk (T p) = true := by
  have key : ∀ p, p < n → ∀ c ∈ tl (T p), c < 1114112 := by
    intro p
    induction p using Nat.strongRecOn with
    | ind p ih =>
      intro hn c hc
      rcases Nat.eq_zero_or_pos p with rfl | hp
      · rw [h.root.1] at hc; cases hc
      · obtain ⟨u1, _, _, k, e, he, k0, _, _, r⟩ := h.node p hp hn
        obtain ⟨kk, rfl⟩ : ∃ kk : Nat, k = (kk : Int) := ⟨k.toNat, by omega⟩
        rw [r, tl_add, tl_add, tl_mul] at hc
        rcases List.mem_append.mp hc with hc | hc
        · rcases List.mem_append.mp hc with hc | hc
          · exact ih _ u1 (Nat.lt_trans u1 hn) c hc
          · rw [(List.mem_replicate.mp hc).2]; decide
        · exact (good_tl he).2.2 c hc
  intro p hn
  unfold PyData.strOk
  rw [Array.all_eq_true_iff_forall_mem]
  intro c hc
  exact decide_eq_true (key p hn c (Array.mem_def.mp hc))
end
end Mine
namespace Mine
theorem AllBare.only {g : Nat} {a b : Array GenState} (h : AllBare a) (q : GenOnlyQ g a b) : AllBare b := by
  rcases q with rfl | ⟨q, r⟩
  · exact h
  · intro y hy
    obtain ⟨k, hk⟩ := List.mem_iff_getElem?.mp (Array.mem_def.mp hy)
    rw [Array.getElem?_toList] at hk
    by_cases z : k = g
    · subst z; exact r y hk
    · rw [q.2 k z] at hk
      exact h y (Array.mem_of_getElem? hk)
/-- a generator of _ancestry that stands at its start -/
structure GenSt (w : World) (hB h₀ : Heap) (L : Addr) (m : Str → Option Value) (news : List (Addr × Obj)) (a : Addr) (ys : List Str) (s : Shared) : Prop where
  F : Fr h₀ L s.heap m
  N : News h₀ L s.heap news
  bare : AllBare s.gens
  anc : ∃ g C, AncAt w hB a g C ys 0 s ∧ a ≠ C ∧ C ≠ L ∧ h₀.get? C = none ∧ (∀ q ∈ news, q.1 ≠ C) ∧ (∀ b ∈ a :: C :: List.range hB.objs.size, b < s.heap.objs.size)
section
variable {w : World} {s : Shared} {mg mb : Str → Option Value} {d u : Nat} {gd : Option (List Code)} {fr : Option (List Env)} {E : Value → Shared → Prop} {h₀ hB : Heap} {L : Addr} {m : Str → Option Value} {news : List (Addr × Obj)}
theorem anc_use2 {Q : Value → Shared → Prop} {ys : List Str} (G₀ : Gd w mg mb hB) (k₀ : Kp hB h₀) (hs₀ : hB.objs.size ≤ h₀.objs.size)
    (F : Fr h₀ L s.heap m) (N : News h₀ L s.heap news) (hb : AllBare s.gens) (hroom : d < 580) {p : Str} {t : Tok} (hp : p.length ≤ 1000) (ha : Anc (Txt.rstripChars p slash) ys)
    (h : ∀ h' tk' g' a, GenSt w hB h₀ L m news a ys { s with heap := h', toks := tk', gens := g' } → Q (.ref a) { s with heap := h', toks := tk', gens := g' }) :
    wpAny (model prg w) ⟨none, d, fr, gd, u⟩ (call (.ref 147) [.str p t]) Q E s := by
  have hsz : hB.objs.size ≤ s.heap.objs.size := Nat.le_trans hs₀ (Nat.le_trans F.above (Nat.le_of_lt F.ns.lt))
  refine wpAny_call (codeAny_mono (anc_make ⟨G₀.X.keeps (k₀.trans F.keep), G₀.T.keeps (k₀.trans F.keep)⟩ G₀ (k₀.trans F.keep) hsz hroom hp (Nat.le_trans (len_rstripChars _ _) hp) ha) fun r s' hr => ?_)
  obtain ⟨a, C, h', tk, gs, rfl, rfl, hbg, k, ha0, hC0, haC, hA⟩ := hr
  refine h h' tk _ a ⟨F.keeps k, fun q hq => ⟨k _ _ (N q hq).1, (N q hq).2⟩, hb.push hbg, s.gens.size, C, hA, haC, (out_of F hC0).2, (out_of F hC0).1, fun q hq z => ?_, ?_⟩
  · have := (N q hq).1
    rw [z, hC0] at this; cases this
  · obtain ⟨o, nm, qn, ho, hr⟩ := id hA.gen
    obtain ⟨oC, hoC⟩ := hA.hasC
    intro b hb
    rcases List.mem_cons.mp hb with rfl | hb
    · exact Heap.lt_size ho
    rcases List.mem_cons.mp hb with rfl | hb
    · exact Heap.lt_size hoC
    · have h1 := List.mem_range.mp hb
      exact Nat.lt_of_lt_of_le h1 (Nat.le_trans hs₀ (Nat.le_trans F.above (Nat.le_of_lt (F.keeps k).ns.lt)))
theorem strs_of_items {acc : Array Value} {ys : List Str} (h : ItemsOf (fun i v => ∃ y t, ys[i]? = some y ∧ v = .str y t) acc ys.length) : StrsAre acc.toList ys := by
  refine kdy_strs (by rw [Array.length_toList]; exact h.1) fun j v hv => ?_
  rw [Array.getElem?_toList] at hv
  obtain ⟨y, t, hy, e⟩ := h.2 j v hv
  exact ⟨y, hy, t, e⟩
theorem list_anc {Q : Value → Shared → Prop} {ys : List Str} {a : Addr} (G : GenSt w hB h₀ L m news a ys s) (hd : d ≤ 400) (hu : u ≤ 3900) (hys : ys.length ≤ 1000)
    (h : ∀ h' tk g' B vs c, StrsAre vs ys → AllBare g' → Fr h₀ L h' m → News h₀ L h' ((B, listOf (List.toArray vs) c) :: news) → (∀ q ∈ news, @LT.lt Nat _ q.1 B) → @LT.lt Nat _ L B → Q (.ref B) { s with heap := h', toks := tk, gens := g' }) :
    wpAny (model prg w) ⟨none, d, fr, gd, u⟩ (call (.type "list") [.ref a]) Q E s := by
  obtain ⟨F, N, hb, g, C, hA, haC, hCL, hC0, hCn, hfp⟩ := G
  have W := AncAt.walks (w := w) (h₀ := hB) (g := g) (ys := ys) (A := (⟨none, d, fr, gd, u⟩ : Around).in1.in1) rfl hd (show u + 1 + 1 ≤ 4000 by omega) haC
  refine call_list_gen W (fun i s' st => st.gen.typeIs) hA hfp (.head _) (fun s' acc c hm hS hit => ?_) (by rw [sizeLine_eq]; omega)
  obtain ⟨h', g', d', tk', os'⟩ := s'
  have ed : d' = s.drawn := hm.drawn
  have eo : os' = s.os := hm.os
  subst ed; subst eo
  have hk : ∀ b o, b ≠ C → s.heap.get? b = some o → h'.get? b = some o := fun b o hb e =>
    hm.heap b o (by simp only [List.mem_cons, List.not_mem_nil, or_false, not_or]; exact ⟨Nat.ne_of_lt (Heap.lt_size e), hb⟩) (Heap.get?_push_of_some _ e)
  obtain ⟨vs, rfl⟩ : ∃ vs, acc = List.toArray vs := ⟨acc.toList, by simp⟩
  have hLs : @LT.lt Nat _ L s.heap.objs.size := F.ns.lt
  have hst := strs_of_items hit
  refine h h' tk' g' s.heap.objs.size vs c (by simpa using hst) (AllBare.only hb hm.gens) (fr_old F hCL.symm hC0 hk) ?_ (fun q hq => Heap.lt_size (N q hq).1) hLs
  exact List.forall_mem_cons.mpr ⟨⟨hS, show @Ne Nat _ _ from by omega, get_above (Nat.le_trans F.above (Nat.le_of_lt hLs))⟩, fun q hq => ⟨hk _ _ (hCn q hq) (N q hq).1, (N q hq).2⟩⟩
end
theorem strs_at {vs : List Value} {l : List Str} (h : StrsAre vs l) {i : Nat} {v : Value} (hv : vs.toArray[i]? = some v) : ∃ y t, l[i]? = some y ∧ v = .str y t := by
  simp only [List.getElem?_toArray] at hv
  have hil := (List.getElem?_eq_some_iff.mp hv).1
  have hio : i < l.length := by have := h.length; omega
  obtain ⟨t, ht⟩ := h.get i _ (List.getElem?_eq_getElem hio)
  rw [ht] at hv
  exact ⟨l[i], t, List.getElem?_eq_getElem hio, (Option.some.inj hv).symm⟩
local macro_rules | `(tactic| walk_at "eval ListComp") => do rul (some (← `(eval (PySem.Expr.ListComp _ [_] _ _) _))) `comp_eval "RRD_" 0 'n'
local macro_rules | `(tactic| walk_at "eval ListComp") => do rul (some (← `(eval (PySem.Expr.ListComp _ [_, _] _ _) _))) `comp2_eval "RRD_" 0 'n'
local macro_rules | `(tactic| walk_at "callWith ref") => do rul (some (← `(callWith _ (Value.ref 148) _ (backTo _ (starEach (_ :: _) _)) []))) `callWith_bd "_" 0 'n'
local macro_rules | `(tactic| walk_at "call ref") => rul (qcall `PySem.Value.ref (qn 147) "s") `anc_use2 "AAAAAAOAA_!" 5 'F'
local macro_rules | `(tactic| walk_at "subscriptTail") => rul (qsub `PySem.Value.int) `subS "AMAOOO_S!" 1 'n'
local macro_rules | `(tactic| walk_at "call type:list") => rul (qcall `PySem.Value.type (qs "list") "r") `list_anc "AOOA_!" 12 'n'
local macro_rules | `(tactic| walk_at "call type:list") => rul (qcall `PySem.Value.type (qs "list") "r") `list_keys "RAAMAAA_!" 9 'n'
section
variable {w : World} {s : Shared} {mg mb : Str → Option Value} {mean : ExcName → Option Value} {d u : Nat} {gd : Option (List Code)} {E : Value → Shared → Prop} {Q : Flow → Shared → Prop} {L fa : Addr} {cd : Value}
end
end Mine
namespace Mine
/-- an islice over a generator of _ancestry that stands at its start -/
structure ParGS (w : World) (hB : Heap) (Lw C₀ : Addr) (oL : Obj) (mC : Str → Option Value) (news : List (Addr × Obj)) (x : Addr) (ys : List Str) (s : Shared) : Prop where
  F : Fr hB C₀ s.heap mC
  N : News hB C₀ s.heap ((Lw, oL) :: news)
  bare : AllBare s.gens
  par : ∃ dd a C g o, AncAt w hB a g C ys 0 s ∧ s.heap.get? x = some o ∧ IslObj dd (.ref a) 0 1 o ∧ s.heap.get? dd = some (dictOf [] 0) ∧ (@LT.lt Nat _ a dd ∧ @LT.lt Nat _ C dd ∧ @LT.lt Nat _ dd x) ∧
    (hB.get? x = none ∧ hB.get? dd = none ∧ hB.get? a = none ∧ hB.get? C = none) ∧ (∀ q ∈ (Lw, oL) :: news, q.1 ≠ x ∧ q.1 ≠ dd ∧ q.1 ≠ a ∧ q.1 ≠ C) ∧ (C₀ ≠ x ∧ C₀ ≠ dd ∧ C₀ ≠ a ∧ C₀ ≠ C)
section
variable {w : World} {s : Shared} {mg mb : Str → Option Value} {mean : ExcName → Option Value} {d u : Nat} {gd : Option (List Code)} {envL : Env} {E : Value → Shared → Prop} {hB base : Heap} {Lw C₀ : Addr} {oL : Obj} {mC : Str → Option Value} {news : List (Addr × Obj)}
theorem par_use {Q : Value → Shared → Prop} {ys : List Str} (X : (hd.heap_1 w.params).In hB) (T : Top topProg lg mean mg mb hB)
    (F : Fr hB C₀ s.heap mC) (N : News hB C₀ s.heap ((Lw, oL) :: news)) (B : Below ⟨none, d, some [envL], gd, u⟩ base [envL] s.heap) (hb : AllBare s.gens) (hroom : d < 500) {p : Str} {t : Tok} (hp : p.length ≤ 1000) (ha : Anc (Txt.rstripChars p slash) ys)
    (h : ∀ h' tk' g' x, ParGS w hB Lw C₀ oL mC news x ys { s with heap := h', toks := tk', gens := g' } → Q (.ref x) { s with heap := h', toks := tk', gens := g' }) :
    wpAny (model prg w) ⟨none, d, some [envL], gd, u⟩ (call (.ref 119) [.str p t]) Q E s := by
  have hsz : hB.objs.size ≤ s.heap.objs.size := Nat.le_trans F.above (Nat.le_of_lt F.ns.lt)
  refine wpAny_call (codeAny_mono (parents_any (X.keeps F.keep) (T.keeps F.keep) B ⟨X, topRead_of T⟩ F.keep hsz hroom hp (Nat.le_trans (len_rstripChars _ _) hp) ha) fun r s' hr => ?_)
  obtain ⟨x, dd, a, C, h', tk, gs, o, rfl, rfl, hbg, k, x0, d0, a0, C0, hx, hI, hd', hA, l1, l2, l3⟩ := hr
  have ne : ∀ {b : Addr}, s.heap.get? b = none → ∀ q ∈ (Lw, oL) :: news, q.1 ≠ b := fun {b} e q hq z => by
    have := (N q hq).1
    rw [z, e] at this; cases this
  refine h h' tk _ x ⟨F.keeps k, fun q hq => ⟨k _ _ (N q hq).1, (N q hq).2⟩, hb.push hbg, dd, a, C, s.gens.size, o, hA, hx, hI, hd', ⟨l1, l2, l3⟩, ⟨(out_of F x0).1, (out_of F d0).1, (out_of F a0).1, (out_of F C0).1⟩,
    fun q hq => ⟨ne x0 q hq, ne d0 q hq, ne a0 q hq, ne C0 q hq⟩, (out_of F x0).2.symm, (out_of F d0).2.symm, (out_of F a0).2.symm, (out_of F C0).2.symm⟩
end
local macro_rules | `(tactic| walk_at "exec Assign cons ListComp") => rul none `assign_comp "SRRD_" 0 'n'
local macro_rules | `(tactic| walk_at "call ref") => rul (qcall `PySem.Value.ref (qn 119) "s") `par_use "AAAAAAOAA_!" 5 'F'
section
variable {w : World} {s : Shared} {mg mb : Str → Option Value} {mean : ExcName → Option Value} {d u : Nat} {gd : Option (List Code)} {E : Value → Shared → Prop} {Q : Flow → Shared → Prop} {L fa : Addr} {cd : Value}
end
end Mine
namespace Mine
theorem slot_md_get : Slot "method_descriptor" "__get__" "method_descriptor.__get__" :=
  .of (owner := "method_descriptor") (n := "__get__") (by rw [typeLookup_type, builtinLookup_eq_fast]; kernel_rfl) (by decide +kernel) (by decide +kernel) (by decide +kernel)
    (by first | exact .inl (by decide +kernel) | exact .inr (by decide +kernel)) (by rw [isSubtype_type]; kernel_rfl)
theorem md_no_set : typeLookup (.type "method_descriptor") "__set__" = pure none := by rw [typeLookup_type, builtinLookup_eq_fast]; kernel_rfl
theorem md_no_delete : typeLookup (.type "method_descriptor") "__delete__" = pure none := by rw [typeLookup_type, builtinLookup_eq_fast]; kernel_rfl
theorem entry_md_get : entryFor table "method_descriptor.__get__" = some Builtin.«method_descriptor.__get__» := entryFor_of_tree (by kernel_rfl)
theorem args_md_get (a b c : Value) : argsOk "method_descriptor.__get__" ⟨[a, b, c], []⟩ := by unfold argsOk; kernel_rfl
theorem not_told : Manifest.toldItsClass.contains "set.__contains__" = false := by decide +kernel
theorem set_owner : isSubtype (.type "set") (.type (".".intercalate ("set.__contains__".cutAt '.').dropLast)) = pure true := by
  have e : (".".intercalate ("set.__contains__".cutAt '.').dropLast) = "set" := by decide +kernel
  rw [e]; exact sub_set_self
section
variable {prog : Program} {w : World} {A : Around} {E : Value → Shared → Prop} {h : Heap} {g : Array GenState} {d : Drawn} {t : Nat} {os : OsState} {a : Addr} {o : Obj}
theorem contains_get {R : Result → Shared → Prop} (hx : h.get? a = some o) (hc : o.cls = .type "set") (hq : R (.ok (.ret (.ref h.objs.size))) ⟨h.push (boundO "set.__contains__" (.ref a)), g, d, t, os⟩) :
    codeAny (model prog w) A (.call (.builtin "method_descriptor.__get__") ⟨[.builtin "set.__contains__", .ref a, .type "set"], []⟩) R ⟨h, g, d, t, os⟩ := by
  have hT : (⟨h, g, d, t, os⟩ : Shared).TypeIs (.ref a) "set" := ⟨_, hx, hc⟩
  have hT5 : (⟨h, g, d, t, os⟩ : Shared).TypeIs (.builtin "set.__contains__") "method_descriptor" := PySem.F.type_set_contains
  have f8 := set_owner
  have f9 := not_told
  refine codeAny_call_builtin slot_md_get.plain entry_md_get (slot_md_get.check _ _ _ _ _ _ _ _ hT5 (args_md_get _ _ _) ?_)
  repeat (any_goals (first | assumption | wp_step))
theorem contains_entry {tk : Tok} {es : Array (Int × Value)} {ep : Nat} {tb : SetTable} {osl : Array (Option Value)} {Q : Fin → Shared → Prop} (hx : h.get? a = some { cls := .type "set", dict := none, data := .set es ep tb, slots := osl }) (hq : Q (.done (.ret (.ref h.objs.size))) ⟨h.push (boundO "set.__contains__" (.ref a)), g, d, t, os⟩) :
    wpAny (model prog w) A (Builtin.«object.__getattribute__» ⟨[.ref a, .str "__contains__" tk], []⟩) Q E ⟨h, g, d, t, os⟩ := by
  have hT : (⟨h, g, d, t, os⟩ : Shared).TypeIs (.ref a) "set" := ⟨_, hx, rfl⟩
  have hT5 : (⟨h, g, d, t, os⟩ : Shared).TypeIs (.builtin "set.__contains__") "method_descriptor" := PySem.F.type_set_contains
  have f4 := PySem.F.slot_set_contains.lookup
  have f5 := PySem.F.type_set_contains
  have f6 := slot_md_get.lookup
  have f7 := md_no_set
  have f8 := md_no_delete
  repeat (any_goals (first | assumption | wp_step))
  refine contains_get hx rfl ?_
  repeat (any_goals (first | assumption | wp_step))
theorem contains_call {tk : Tok} {es : Array (Int × Value)} {ep : Nat} {tb : SetTable} {osl : Array (Option Value)} {R : Result → Shared → Prop} (hx : h.get? a = some { cls := .type "set", dict := none, data := .set es ep tb, slots := osl }) (hq : R (.ok (.ret (.ref h.objs.size))) ⟨h.push (boundO "set.__contains__" (.ref a)), g, d, t, os⟩) :
    codeAny (model prog w) A (.call (.builtin "set.__getattribute__") ⟨[.ref a, .str "__contains__" tk], []⟩) R ⟨h, g, d, t, os⟩ :=
  codeAny_call_builtin PySem.F.slot_set_getattribute.plain PySem.F.entry_set_ga (PySem.F.slot_set_getattribute.check _ _ _ _ _ _ _ _ (show (⟨h, g, d, t, os⟩ : Shared).TypeIs (.ref a) "set" from ⟨_, hx, rfl⟩) (PySem.F.args_set_getattribute_2 _ _) (contains_entry hx hq))
theorem contains_by {tk : Tok} {es : Array (Int × Value)} {ep : Nat} {tb : SetTable} {osl : Array (Option Value)} {Q : Value → Shared → Prop} {ex : Bool} (hx : h.get? a = some { cls := .type "set", dict := none, data := .set es ep tb, slots := osl }) (hq : Q (.ref h.objs.size) ⟨h.push (boundO "set.__contains__" (.ref a)), g, d, t, os⟩) : wpAny (model prog w) A (getAttrBy (.ref a) (.str "__contains__" tk) true ex) Q E ⟨h, g, d, t, os⟩ := by
  have hT : (⟨h, g, d, t, os⟩ : Shared).TypeIs (.ref a) "set" := ⟨_, hx, rfl⟩
  have f2 := PySem.F.slot_set_getattribute.lookup
  have f3 := PySem.F.slot_set_getattribute.bind (.ref a)
  repeat (any_goals (first | assumption | wp_step))
  have hoff : (ex && onTheHeap (.builtin "set.__getattribute__")) = false := by cases ex <;> rfl
  rw [if_neg (by rw [hoff]; exact Bool.false_ne_true)]
  unfold boundAndCalled
  repeat (any_goals (first | assumption | wp_step))
  refine contains_call hx ?_
  repeat (any_goals (first | assumption | wp_step))
theorem contains_attr {es : Array (Int × Value)} {ep : Nat} {tb : SetTable} {osl : Array (Option Value)} {Q : Value → Shared → Prop} {ex : Bool} (hx : h.get? a = some { cls := .type "set", dict := none, data := .set es ep tb, slots := osl }) (hq : Q (.ref h.objs.size) ⟨h.push (boundO "set.__contains__" (.ref a)), g, d, t + 1, os⟩) : wpAny (model prog w) A (getAttr (.ref a) "__contains__" ex) Q E ⟨h, g, d, t, os⟩ := by
  unfold getAttr
  repeat (any_goals (first | assumption | with_reducible apply contains_by hx | wp_step))
end
end Mine
namespace Mine
theorem resetCe1 : True := by
  k_with_none
  w_top off
  trivial
section
variable {prog : Program} {w : World} {A : Around} {E : Value → Shared → Prop} {s : Shared} {h₀ : Heap} {L : Addr} {m : Str → Option Value} {news : List (Addr × Obj)}
theorem set_use {l : Addr} {vs : List Value} {ys : List Str} {Q : Value → Shared → Prop} (hh : A.handled = none) (F : Fr h₀ L s.heap m) (N : News h₀ L s.heap news) (hl : s.heap.IsList l vs.toArray) (hi : StrsAre vs ys) (hb : vs.length ≤ 4000)
    (h : ∀ so o c h' tk, o.SetObjOf (strKind prog w) (fun k => decide (k ∈ ys)) c → c ≤ 4000 → Fr h₀ L h' m → News h₀ L h' ((so, o) :: news) → (∀ q ∈ news, @LT.lt Nat _ q.1 so) → Q (.ref so) { s with heap := h', toks := tk }) :
    wpAny (model prog w) A (call (.type "set") [.ref l]) Q E s := by
  refine call_set_strs hh hl (by simpa using hi) (by rw [List.size_toArray]; unfold scanBound; omega) fun h' tk c hS hc hk => ?_
  obtain ⟨o, ho, hso⟩ := hS.objOf
  refine h _ o c h' tk hso (by rw [List.size_toArray] at hc; omega) (F.keeps hk) (List.forall_mem_cons.mpr ⟨⟨ho, Nat.ne_of_gt F.ns.lt, fr_none F (Nat.le_refl _)⟩, fun q hq => ⟨hk _ _ (N q hq).1, (N q hq).2⟩⟩) fun q hq => Heap.lt_size (N q hq).1
theorem contains_use {so : Addr} {o : Obj} {S : Str → Bool} {c : Nat} {Q : Value → Shared → Prop} {ex : Bool} (F : Fr h₀ L s.heap m) (N : News h₀ L s.heap news) (hm : (so, o) ∈ news) (ho : o.SetObjOf (strKind prog w) S c)
    (h : ∀ b h', Fr h₀ L h' m → News h₀ L h' ((b, boundO "set.__contains__" (.ref so)) :: news) → (∀ q ∈ news, @LT.lt Nat _ q.1 b) → Q (.ref b) { s with heap := h', toks := s.toks + 1 }) :
    wpAny (model prog w) A (getAttr (.ref so) (Str.ofString "__contains__") ex) Q E s := by
  obtain ⟨hx, es, ep, t, hd, _⟩ := ho
  obtain ⟨ocls, odict, odata, osl⟩ := o
  obtain ⟨x1, x2, x3⟩ := hx
  simp only at x1 x2 x3 hd
  subst x1; subst x2; subst x3; subst hd
  obtain ⟨hp, g, d, tk, os⟩ := s
  exact contains_attr (N _ hm).1 (h _ _ (F.push _) (News.push F N _) fun q hq => Heap.lt_size (N q hq).1)
theorem iter_list {l : Addr} {items : Array Value} {Q : Value → Shared → Prop} (F : Fr h₀ L s.heap m) (N : News h₀ L s.heap news) (hl : s.heap.IsList l items)
    (h : ∀ it h', Fr h₀ L h' m → News h₀ L h' ((it, { cls := .type "list_iterator", data := .fields #[.ref l, .int 0 0] }) :: news) → (∀ q ∈ news, @LT.lt Nat _ q.1 it) → Q (.ref it) { s with heap := h' }) :
    wpAny (model prog w) A (call (.builtin "iter") [.ref l]) Q E s :=
  iter_by (wpAny_pyIter_list hl (h _ _ (F.push _) (News.push F N _) fun q hq => Heap.lt_size (N q hq).1))
end
local macro_rules | `(tactic| walk_at "call type:set") => rulx (qcall `PySem.Value.type (qs "set") "r") `set_use "RAAXAA_!" 10 'l' `(tactic| exact Heap.IsList.at (by with_reducible assumption) fun o e => Fr.keep (by with_reducible assumption) _ _ e)
local macro_rules | `(tactic| walk_at "getAttr ref") => rul none `contains_use "AAMA_!" 5 'l'
local macro_rules | `(tactic| walk_at "call builtin:iter") => rulx (qcall `PySem.Value.builtin (qs "iter") "r") `iter_list "AAX_!" 5 'l' `(tactic| exact Heap.IsList.at (by with_reducible assumption) fun o e => Fr.keep (by with_reducible assumption) _ _ (Fr.keep (by with_reducible assumption) _ _ e))
section
variable {w : World} {s : Shared} {mg mb : Str → Option Value} {mean : ExcName → Option Value} {d u : Nat} {gd : Option (List Code)} {outer : List Env} {base : Heap}
noncomputable def FfObj (dd : Addr) (bo it : Value) (o : Obj) : Prop := o = { cls := .ref 108, dict := some dd, slots := #[some bo, some it] }
noncomputable def MadeDiff (w : World) (wl : Addr) (fs : List Str) (s : Shared) (r : Result) (s' : Shared) : Prop :=
  ∃ x dd bo it so o oS c h' tk, r = .ok (.ret (.ref x)) ∧ s' = { s with heap := h', toks := tk } ∧ Kp s.heap h' ∧ (s.heap.get? x = none ∧ s.heap.get? dd = none ∧ s.heap.get? bo = none ∧ s.heap.get? it = none ∧ s.heap.get? so = none) ∧
    (h'.get? x = some o ∧ FfObj dd (.ref bo) (.ref it) o) ∧ h'.get? dd = some (dictOf [] 0) ∧ h'.get? bo = some (boundO "set.__contains__" (.ref so)) ∧ (h'.get? so = some oS ∧ oS.SetObjOf (strKind prg w) (fun k => decide (k ∈ fs)) c ∧ c ≤ 4000) ∧ h'.IsListIter it wl 0 ∧ (@LT.lt Nat _ so bo ∧ @LT.lt Nat _ bo dd ∧ @LT.lt Nat _ dd x ∧ @LT.lt Nat _ x it)
theorem diff_any (X : (hd.heap_1 w.params).In s.heap) (T : Top topProg lg mean mg mb s.heap) (B : Below ⟨none, d, some outer, gd, u⟩ base outer s.heap) (hroom : d < 500)
    {wl fl : Addr} {wv fv : List Value} {fs : List Str} (hw : s.heap.IsList wl wv.toArray) (hf : s.heap.IsList fl fv.toArray) (hfs : StrsAre fv fs) (hfl : fv.length ≤ 4000) :
    codeAny (model prg w) ⟨none, d, some outer, gd, u⟩ (.call (.ref 155) ⟨[.ref wl, .ref fl], []⟩) (MadeDiff w wl fs s) s := by
  refine' call_anyB X T B ?k6 ?k7 (by unfold recursionLimit; show d < 1000; omega) ?k9 ?kB ?_ ?c2 ?c3 ?c4 ?c5; (case k6 => k_is); (case k7 => k_is); (case k9 => exact BindsTo.of_eq rfl); (case c5 => decide); (case kB => exact locs rfl); (case c2 => exact rfl); (case c3 => exact rfl); (case c4 => exact rfl)
  intro L' h' g hg hL F' N' B' X' T'; (try dsimp only)
  rw [← hg] at hw hf
  k_fold
  k_steps
  with_reducible rename Fr _ L' _ _ => kF
  with_reducible rename News _ L' _ _ => kN
  with_reducible rename Obj.SetObjOf _ _ _ _ => hso
  subst hg
  have q1 := kN _ (.head _)
  have q2 := kN _ (.tail _ (.head _))
  have q3 := kN _ (.tail _ (.tail _ (.head _)))
  have q4 := kN _ (.tail _ (.tail _ (.tail _ (.head _))))
  have q5 := kN _ (.tail _ (.tail _ (.tail _ (.tail _ (.head _)))))
  exact ⟨_, _, _, _, _, _, _, _, _, _, rfl, rfl, kF.keep, ⟨q2.2.2, q3.2.2, q4.2.2, q1.2.2, q5.2.2⟩, ⟨q2.1, rfl⟩, q3.1, q4.1, ⟨q5.1, hso, by omega⟩, ⟨_, q1.1, rfl, rfl⟩, by omega, by omega, by omega, by omega⟩
end
end Mine
namespace Mine
section
variable {prog : Program} {w : World} {A : Around} {E : Value → Shared → Prop} {s : Shared} {env : Env}
theorem while_ret {test : Expr} {body : List Stmt} {pos : Pos} {Q : Flow → Shared → Prop} (J : Nat → Shared → Prop) (n₀ : Nat) (h0 : J n₀ s)
    (turn : ∀ n s₁, J n s₁ → wpAny (model prog w) A (isTrue test env (eval test env)) (fun b s₂ => b = true ∧ wpAny (model prog w) A (execs body env) (ForFlow Q fun s₃ => ∃ m, m < n ∧ J m s₃) E s₂) E s₁)
    (hE : PassesOwn (model prog w) A env E := by passes_own) : wpAny (model prog w) A (exec (.While test body [] pos) env) Q E s := by
  refine wpAny_While (codeAny_whileLoop J (fun n s₁ hJ => ?_) n₀ h0)
  refine wpAny_mono (turn n s₁ hJ) (fun b s₂ h₂ => ?_) hE
  obtain ⟨rfl, h₂⟩ := h₂
  simp only [if_true]
  refine wpAny_mono h₂ (fun f s₃ h₃ => ?_) hE
  cases f <;> exact h₃
theorem next_list {it l : Addr} {i : Nat} {items : Array Value} {Q : Value → Shared → Prop} (hh : A.handled = none) (hit : s.heap.IsListIter it l i) (hl : s.heap.IsList l items)
    (hQ : ∀ v h', items[i]? = some v → h'.IsListIter it l (i + 1) → Heap.SameBut it s.heap h' → Q v { s with heap := h' })
    (hE : ∀ h₁ h' e, items[i]? = none → (∀ b o, b ≠ it → s.heap.get? b = some o → h₁.get? b = some o) → (∃ o, h₁.get? it = some o) → Heap.NewExc h₁ h' e "StopIteration" → E (.ref e) { s with heap := h' }) :
    wpAny (model prog w) A (call (.builtin "next") [.ref it]) Q E s := by
  refine next_by hit.typeIs slot_listiter_next ?_
  obtain ⟨o, ho, hc, hd⟩ := id hit
  obtain ⟨ol, hol, _, nl, hdl⟩ := hl
  refine wpAny_callSpecial?_slot (name := Str.ofString "__next__") hit.typeIs slot_listiter_next (wpAny_call_entry slot_listiter_next hit.typeIs entry_listiter_next ?_ (args_listiter_next _))
  show wpAny _ _ (field (.ref it) 0 >>= _) _ _ s
  refine wpAny_bind (wpAny_field ho hd (x := .ref l) rfl ?_)
  show wpAny _ _ (if (Value.ref l == Value.none) = true then _ else _) _ _ s
  rw [if_neg (show ¬ ((Value.ref l == Value.none) = true) from Bool.false_ne_true)]
  show wpAny _ _ (field (.ref it) 1 >>= _) _ _ s
  refine wpAny_bind (wpAny_field ho hd (x := .int i 0) rfl ?_)
  show wpAny _ _ (seqItems? (.ref l) >>= _) _ _ s
  refine wpAny_bind (wpAny_seqItems hol hdl ?_)
  cases hx : items[i]? with
  | some x =>
    simp only [Int.toNat_natCast, hx]
    refine wpAny_bind (wpAny_setField ho hd (by simp) (wpAny_pure ⟨x, rfl, x, rfl, hQ x _ hx ?_ (Heap.SameBut.update ..)⟩))
    exact ⟨_, Heap.get?_update_self _ ho (Obj.isFreed_of_fields (Obj.data_mapFields hd _)), (Obj.cls_mapFields ..).trans hc, by
      rw [Obj.data_mapFields hd]; simp [rawInt]⟩
  | none =>
    simp only [Int.toNat_natCast, hx]
    refine wpAny_bind (wpAny_rule (wpAny_bind (wpAny_setField ho hd (by simp) ?_)))
    show wpAny _ _ (newExc (.type "StopIteration") [] >>= _) _ _ _
    refine wpAny_bind ?_
    simp only [newExc, newTuple]
    refine wpAny_bind (wpAny_newObj_type ?_ (by size_fits))
    refine wpAny_bind (m := firstArgMember _ _) (wpAny_of_eq (a := Value.none) (by first | rfl | (simp only [firstArgMember]; rfl)) ?_)
    refine wpAny_newObj_type ?_ (by size_fits)
    simp only [raiseNew]
    refine wpAny_bind (wpAny_handled ?_)
    rw [show A.in1.in1.handled = none from hh]
    refine wpAny_bind (wpAny_pure (wpAny_throw ?_))
    refine hE _ _ _ hx (fun b o hb e => (Heap.get?_update_other _ _ (Ne.symm hb)).trans e) ⟨_, Heap.get?_update_self _ ho (Obj.isFreed_of_fields (Obj.data_mapFields hd _))⟩ ⟨fun b o hb => Heap.get?_push_of_some _ (Heap.get?_push_of_some _ hb), ?_, _, _, Heap.get?_push_size _ rfl, rfl, rfl⟩
    exact Heap.get?_none_of_le (by rw [Heap.size_push]; exact Nat.le_succ _)
theorem entry_contains : entryFor table "set.__contains__" = some Builtin.«frozenset.__contains__» := PySem.entry_set_contains
theorem plain_contains : plainId "set.__contains__" = true := by decide +kernel
theorem kind_contains : builtinKind "set.__contains__" = some .method := by decide +kernel
theorem sub_set_module : isSubtype (.type "set") (.type "module") = pure false := by rw [isSubtype_type]; kernel_rfl
theorem check_contains {h : Heap} {g : Array GenState} {d : Drawn} {tk : Nat} {os : OsState} {so : Addr} {es : Array (Int × Value)} {ep : Nat} {tb : SetTable} {osl : Array (Option Value)} {y : Str} {t : Tok} {Q : Unit → Shared → Prop} (hx : h.get? so = some { cls := .type "set", dict := none, data := .set es ep tb, slots := osl }) (hq : Q () ⟨h, g, d, tk, os⟩) : wpAny (model prog w) A (checkBoundCall "set.__contains__" ⟨[.ref so, .str y t], []⟩) Q E ⟨h, g, d, tk, os⟩ := by
  have hT : (⟨h, g, d, tk, os⟩ : Shared).TypeIs (.ref so) "set" := ⟨_, hx, rfl⟩
  unfold checkBoundCall
  have hk := kind_contains
  have hm := sub_set_module
  rw [hk]
  repeat (any_goals (first | assumption | wp_step))
theorem call_contains {so bo : Addr} {S : Str → Bool} {c : Nat} {y : Str} {t : Tok} {Q : Value → Shared → Prop} (hbo : s.heap.get? bo = some (boundO "set.__contains__" (.ref so))) (hS : s.heap.SetOf (strKind prog w) so S c) (h : Q (.bool (S y)) { s with toks := s.toks + 1 }) :
    wpAny (model prog w) A (call (.ref bo) [.str y t]) Q E s := by
  refine wpAny_call (codeAny_of_tree ?_)
  show wpAny _ A.in1 (callAny (.ref bo) ⟨[.str y t], []⟩) _ _ s
  simp only [callAny]
  refine wpAny_bind (wpAny_load hbo ?_)
  simp only [boundO, show (Value.type "builtin_function_or_method" == Value.type "method" || Value.type "builtin_function_or_method" == Value.type "builtin_function_or_method" || Value.type "builtin_function_or_method" == Value.type "method-wrapper") = true by decide, if_true]
  refine KFB.if_so (by decide) ?_
  have hchk : ∀ {Q' : Unit → Shared → Prop} {E' : Value → Shared → Prop}, Q' () s → wpAny (model prog w) A.in1 (checkBoundCall "set.__contains__" ⟨[.ref so, .str y t], []⟩) Q' E' s := by
    intro Q' E' hq
    obtain ⟨o, es, ep, tb, ho, hex, hd, _⟩ := id hS
    obtain ⟨ocls, odict, odata, osl⟩ := o
    obtain ⟨x1, x2, x3⟩ := hex
    simp only at x1 x2 x3 hd
    subst x1; subst x2; subst x3; subst hd
    obtain ⟨hp, g, d, tk, os⟩ := s
    exact check_contains ho hq
  refine wpAny_bind (hchk ?_)
  refine wpAny_bind (wpAny_pure (wpAny_pure ?_))
  refine ⟨plainId_quiet plain_contains _, codeAny_builtin entry_contains ?_⟩
  rw [Around.under_plainId plain_contains _]
  unfold Builtin.«frozenset.__contains__» Builtin.Frozenset.oneOther
  simp only [List.isEmpty_nil, bind_assoc]
  unfold Builtin.Frozenset.addrOf Builtin.Frozenset.withSetAsKey setContains
  refine wpAny_bind (wpAny_pure ?_)
  try dsimp only
  refine wpAny_bind (wpAny_pure ?_)
  try dsimp only
  refine wpAny_bind (wpAny_tryCatch ?_)
  refine wpAny_holding ?_
  refine wpAny_bind ((strKind prog w).pyHash (k := y) (strKind_is _ _ _ _) ?_)
  refine wpAny_bind (wpAny_setFind_of (s := { s with toks := s.toks + 1 }) (strKind_is _ _ _ _) rfl hS fun r hr => ?_)
  refine wpAny_pure ?_
  show wpAny _ _ (ret (Value.bool r.isSome)) _ _ _
  rw [hr]
  exact wpAny_pure h
end
end Mine
namespace Mine
theorem resetCg1 : True := by
  k_with_none
  w_top off
  trivial
noncomputable def ItO (wl : Addr) (i : Nat) (o : Obj) : Prop := o.cls = .type "list_iterator" ∧ o.data = .fields #[.ref wl, .int i 0]
noncomputable def CEndB (P : Bool → Shared → Prop) (y : Bool) (s : Shared) : Prop := P y s
theorem as_endB {M : Model} {A : Around} {x : Sem Bool} {P : Bool → Shared → Prop} {E : Value → Shared → Prop} {s : Shared} (h : wpAny M A x (CEndB P) E s) : wpAny M A x P E s := h
theorem strs_get {vs : List Value} {l : List Str} (h : StrsAre vs l) {i : Nat} {v : Value} (hv : vs.toArray[i]? = some v) : ∃ y t, l[i]? = some y ∧ v = .str y t := by
  simp only [List.getElem?_toArray] at hv
  have hil := (List.getElem?_eq_some_iff.mp hv).1
  have hio : i < l.length := by have := h.length; omega
  obtain ⟨t, ht⟩ := h.get i _ (List.getElem?_eq_getElem hio)
  rw [ht] at hv
  exact ⟨l[i], t, List.getElem?_eq_getElem hio, (Option.some.inj hv).symm⟩
section
variable {prog : Program} {w : World} {A : Around} {E : Value → Shared → Prop} {s : Shared} {h₀ : Heap} {L : Addr} {m : Str → Option Value} {rest : List (Addr × Obj)}
theorem next_ff {it wl : Addr} {oI : Obj} {i : Nat} {wv : List Value} {ws : List Str} {Q : Value → Shared → Prop} (hh : A.handled = none) (F : Fr h₀ L s.heap m) (N : News h₀ L s.heap ((it, oI) :: rest)) (hI : ItO wl i oI) (hw : h₀.IsList wl wv.toArray) (hws : StrsAre wv ws) (ne : ∀ q ∈ rest, q.1 ≠ it)
    (hQ : ∀ h' oI' y t, ws[i]? = some y → ItO wl (i + 1) oI' → Fr h₀ L h' m → News h₀ L h' ((it, oI') :: rest) → Q (.str y t) { s with heap := h' })
    (hE : ∀ h₁ h' e oI', ws[i]? = none → Fr h₀ L h₁ m → News h₀ L h₁ ((it, oI') :: rest) → Heap.NewExc h₁ h' e "StopIteration" → E (.ref e) { s with heap := h' }) :
    wpAny (model prog w) A (call (.builtin "next") [.ref it]) Q E s := by
  obtain ⟨n1, N⟩ := List.forall_mem_cons.mp N
  have move : ∀ {h' : Heap}, (∀ b o, b ≠ it → s.heap.get? b = some o → h'.get? b = some o) → Fr h₀ L h' m ∧ ∀ q ∈ rest, h'.get? q.1 = some q.2 := fun {h'} k => ⟨fr_old F n1.2.1.symm n1.2.2 k, fun q hq => k _ _ (ne q hq) (N q hq).1⟩
  refine next_list hh ⟨oI, n1.1, hI⟩ (F.lst hw) (fun v h' hv hit hs => ?_) fun h₁ h' e hn k ho hne => ?_
  · obtain ⟨y, t, hy, rfl⟩ := strs_get hws hv
    obtain ⟨F', r⟩ := move fun b o hb e => hs.extBut b o hb e
    obtain ⟨o', ho', hI'⟩ := hit
    exact hQ h' o' y t hy hI' F' (List.forall_mem_cons.mpr ⟨⟨ho', n1.2⟩, fun q hq => ⟨r q hq, (N q hq).2⟩⟩)
  · obtain ⟨F', r⟩ := move k
    obtain ⟨o', ho'⟩ := ho
    refine hE h₁ h' e o' ?_ F' (List.forall_mem_cons.mpr ⟨⟨ho', n1.2⟩, fun q hq => ⟨r q hq, (N q hq).2⟩⟩) hne
    simp only [List.getElem?_toArray] at hn
    rw [List.getElem?_eq_none_iff] at hn ⊢
    rw [← hws.length]; exact hn
end
local macro_rules | `(tactic| walk_at "exec While") => rul none `stop_out "_" 0 'n'
local macro_rules | `(tactic| walk_at "last exec While") => rul none `stop_out "_" 0 'n'
local macro_rules | `(tactic| walk_at "exec While Constant") => rul none `stop_out "_" 0 'n'
local macro_rules | `(tactic| walk_at "call builtin:next") => rul (qcall `PySem.Value.builtin (qs "next") "r") `next_ff "RAAAAAA__" 0 'i'
local macro_rules | `(tactic| walk_at "callWith ref") => do rul (some (← `(callWith _ (Value.ref _) _ (backTo _ (starEach (_ :: _) _)) []))) `callWith_bd "_" 0 'n'
noncomputable abbrev mmF (x bo : Addr) (a : Option Value) : Str → Option Value := fun z => if z = Str.ofString "item" then a else if z = Str.ofString "func" then some (.ref bo) else if z = Str.ofString "self" then some (.ref x) else none
theorem canonF {h₀ h : Heap} {L : Addr} {m m' : Str → Option Value} (F : Fr h₀ L h m) (h1 : m (Str.ofString "item") = m' (Str.ofString "item")) (h2 : m (Str.ofString "func") = m' (Str.ofString "func")) (h3 : m (Str.ofString "self") = m' (Str.ofString "self"))
    (e : ∀ z, z ≠ Str.ofString "item" → z ≠ Str.ofString "func" → z ≠ Str.ofString "self" → m z = m' z) : Fr h₀ L h m' := by
  refine (funext fun z => ?_ : m = m') ▸ F
  by_cases z1 : z = Str.ofString "item"
  · subst z1; exact h1
  by_cases z2 : z = Str.ofString "func"
  · subst z2; exact h2
  by_cases z3 : z = Str.ofString "self"
  · subst z3; exact h3
  exact e z z1 z2 z3
section
variable {w : World} {s : Shared} {mg mb : Str → Option Value} {mean : ExcName → Option Value} {d u : Nat} {gd : Option (List Code)} {envL : Env} {h₀ : Heap} {x dd bo so it wl LL : Addr} {oS oL oI : Obj} {wv : List Value} {ws fs : List Str} {i₀ c : Nat} {mL : Str → Option Value}
noncomputable abbrev ffO (dd bo it : Addr) : Obj := { cls := .ref 108, dict := some dd, slots := #[some (.ref bo), some (.ref it)] }
noncomputable def FfRes (h₀ : Heap) (x dd bo so it wl LL : Addr) (oS oL : Obj) (mL : Str → Option Value) (ws fs : List Str) (i₀ : Nat) (s : Shared) (r : Result) (s' : Shared) : Prop :=
  (∃ k y t h' tk oI', i₀ ≤ k ∧ ws[k]? = some y ∧ y ∉ fs ∧ (∀ j y', i₀ ≤ j → j < k → ws[j]? = some y' → y' ∈ fs) ∧ r = .ok (.ret (.str y t)) ∧ s' = { s with heap := h', toks := tk } ∧ Kp h₀ h' ∧
    (∀ q ∈ [(x, ffO dd bo it), (dd, dictOf [] 0), (bo, boundO "set.__contains__" (.ref so)), (so, oS), (LL, oL)], h'.get? q.1 = some q.2) ∧ h'.get? it = some oI' ∧ ItO wl (k + 1) oI') ∨
  ((∀ (j : Nat) y', i₀ ≤ j → ws[j]? = some y' → y' ∈ fs) ∧ ∃ e T h' tk, r = .error (.ref e) ∧ s' = { s with heap := h', toks := tk } ∧ Kp h₀ h' ∧ TrAt h' e T .none ∧ h₀.get? e = none ∧ h'.Ns LL mL)
noncomputable def FfJ (s : Shared) (h₀ : Heap) (L x dd bo so it wl LL : Addr) (oS oL : Obj) (ws fs : List Str) (i₀ : Nat) (n : Nat) (s₁ : Shared) : Prop :=
  ∃ i h tk a oI', s₁ = { s with heap := h, toks := tk } ∧ Fr h₀ L h (mmF x bo a) ∧ News h₀ L h [(it, oI'), (x, ffO dd bo it), (dd, dictOf [] 0), (bo, boundO "set.__contains__" (.ref so)), (so, oS), (LL, oL)] ∧ ItO wl i oI' ∧ i₀ ≤ i ∧
    (∀ j y', i₀ ≤ j → j < i → ws[j]? = some y' → y' ∈ fs) ∧ i ≤ ws.length ∧ n = ws.length + 1 - i
theorem ff_next (X : (hd.heap_1 w.params).In h₀) (T : Top topProg lg mean mg mb h₀) (k₀ : Kp h₀ s.heap) (hs₀ : h₀.objs.size ≤ s.heap.objs.size)
    (N : ∀ q ∈ [(it, oI), (x, ffO dd bo it), (dd, dictOf [] 0), (bo, boundO "set.__contains__" (.ref so)), (so, oS), (LL, oL)], s.heap.get? q.1 = some q.2 ∧ h₀.get? q.1 = none) (hI : ItO wl i₀ oI) (hi : i₀ ≤ ws.length) (hso : oS.SetObjOf (strKind prg w) (fun k => decide (k ∈ fs)) c)
    (hc : c ≤ 4000) (hw : h₀.IsList wl wv.toArray) (hws : StrsAre wv ws) (ne : ∀ q ∈ [(x, ffO dd bo it), (dd, dictOf [] 0), (bo, boundO "set.__contains__" (.ref so)), (so, oS), (LL, oL)], q.1 ≠ it)
    (nL : x ≠ LL ∧ dd ≠ LL ∧ bo ≠ LL ∧ so ≠ LL) (hkL : envL.scope.kind ≠ .module) (hfL : envL.frame = some LL) (hnsL : ∀ h : Heap, h.get? LL = some oL → h.Ns LL mL) (hroom : d ≤ 390) (hu : u ≤ 3000) :
    codeAny (model prg w) ⟨none, d, some [envL], gd, u⟩ (.call (.ref 104) ⟨[.ref x], []⟩) (FfRes h₀ x dd bo so it wl LL oS oL mL ws fs i₀ s) s := by
  refine' call_anyN X T k₀ hs₀ N ?k6 ?k7 (by unfold recursionLimit; show d < 1000; omega) ?k9 ?kB ?_ ?c2 ?c3 ?c4 ?c5; (case k6 => k_is); (case k7 => k_is); (case k9 => exact BindsTo.of_eq rfl); (case c5 => decide); (case kB => exact locs rfl); (case c2 => exact rfl); (case c3 => exact rfl); (case c4 => exact rfl)
  intro L' h' hL F' N' k1 X' T'; (try dsimp only)
  k_fold
  k_steps
  refine ⟨?_⟩
  with_reducible rename Fr _ _ _ _ => kF
  with_reducible rename News _ _ _ _ => kN
  rename_i hh
  have kF2 : Fr h₀ L' hh (mmF x bo none) := by
    refine canonF kF ?_ ?_ ?_ ?_
    · with_unfolding_all rfl
    · with_unfolding_all rfl
    · with_unfolding_all rfl
    · intro z z1 z2 z3
      refine Eq.trans (b := if z = Str.ofString "func" then some (Value.ref bo) else List.lookup z [(Str.ofString "self", Value.ref x)]) (by with_unfolding_all rfl) ?_
      simp only [if_neg z1, if_neg z2, if_neg z3, List.lookup, beq_eq_false_iff_ne.mpr z3]
  clear kF k1
  refine while_ret (FfJ s h₀ L' x dd bo so it wl LL oS oL ws fs i₀) (ws.length + 1 - i₀) ⟨i₀, _, _, none, oI, rfl, kF2, kN, hI, Nat.le_refl _, fun j y' h1 h2 => by omega, hi, rfl⟩ ?turn
  clear kF2 kN hI N
  rintro n s₁ ⟨i, h, tk, a, oI', rfl, F1, N1, hI1, hi1, hall, hi2, rfl⟩
  refine as_endB ?_
  k_steps
  refine ⟨rfl, ?_⟩
  show wpAny _ _ _ _ _ _
  k_steps
  · with_reducible rename Fr _ _ _ _ => kF
    with_reducible rename News _ _ _ _ => kN
    rename_i h1 oI1 y t hy hI2 h2
    have q := kN _ (.tail _ (.tail _ (.tail _ (.head _))))
    refine ⟨⟨_, _, q.1⟩, ?_⟩
    show wpAny _ _ (call (.ref bo) [.str y t]) _ _ _
    refine call_contains q.1 (hso.setOf (kN _ (.tail _ (.tail _ (.tail _ (.tail _ (.head _)))))).1 ?_) ?_
    · unfold scanBound; omega
    by_cases hm : y ∈ fs
    · rw [decide_eq_true hm]
      show wpAny _ _ _ _ _ _
      k_steps
      have hlt := (List.getElem?_eq_some_iff.mp hy).1
      show ∃ m, m < ws.length + 1 - i ∧ FfJ s h₀ L' x dd bo so it wl LL oS oL ws fs i₀ m _
      refine ⟨ws.length + 1 - (i + 1), by omega, i + 1, h2, _, some (.str y t), oI1, rfl, ?_, kN, hI2, by omega, fun j y' q1 q2 q3 => ?_, hlt, rfl⟩
      · refine canonF kF ?_ ?_ ?_ ?_
        · with_unfolding_all rfl
        · with_unfolding_all rfl
        · with_unfolding_all rfl
        · intro z z1 z2 z3
          simp only [mmF, if_neg z1, if_neg z2, if_neg z3]
      · by_cases z : j = i
        · subst z; rw [hy] at q3; cases q3; exact hm
        · exact hall j y' q1 (by omega) q3
    · rw [decide_eq_false hm]
      show wpAny _ _ _ _ _ _
      k_steps
      show FfRes h₀ x dd bo so it wl LL oS oL mL ws fs i₀ s (.ok (.ret (.str y t))) _
      exact .inl ⟨i, y, t, h2, _, oI1, hi1, hy, hm, fun j y' q1 q2 q3 => hall j y' q1 q2 q3, rfl, rfl, kF.keep, fun q hq => (kN q (.tail _ hq)).1, (kN _ (.head _)).1, hI2⟩
  · rename_i h1 h2 e oI1 hn F2 N2 hne
    unfold leaving
    have hl1 := N2 _ (.tail _ (.tail _ (.tail _ (.tail _ (.tail _ (.head _))))))
    refine wpAny_bind (note_first (LL := LL) (envL := envL) rfl (by intro z; cases z) hkL rfl hfL hne ⟨_, F2.ns⟩ ⟨_, hnsL h1 hl1.1⟩ ?_)
    intro h3 T q1 q2 q3 hT nT nE
    have he : h₀.get? e = none := by
      cases z : h₀.get? e with
      | none => rfl
      | some o => rw [F2.keep _ _ z] at nE; cases nE
    refine .inr ⟨fun j y' r1 r2 => hall j y' r1 (by have := (List.getElem?_eq_some_iff.mp r2).1; rw [List.getElem?_eq_none_iff] at hn; omega) r2, e, T, h3, _, rfl, rfl, ?_, hT, he, q3 _ (hnsL h1 hl1.1)⟩
    exact fun b o z => q1 b o (Nat.ne_of_lt (Nat.lt_of_lt_of_le (Heap.lt_size z) F2.above)) (fun z2 => by rw [z2, hl1.2.2] at z; cases z) (F2.keep b o z)
end
end Mine
namespace Mine
theorem resetCh1 : True := by
  k_with_none
  w_top off
  trivial
/-- what a filterfalse tells -/
noncomputable abbrev sel (ws fs : List Str) : List Str := ws.filter (fun y => decide (y ∉ fs))
theorem sel_same {ws fs : List Str} {i : Nat} : ∀ n, (∀ j y, i ≤ j → j < i + n → ws[j]? = some y → y ∈ fs) → sel (ws.take (i + n)) fs = sel (ws.take i) fs
  | 0, _ => rfl
  | n + 1, h => by
    rw [show i + (n + 1) = (i + n) + 1 from rfl, List.take_add_one]
    unfold sel
    rw [List.filter_append]
    have ih := sel_same n (fun j y h1 h2 => h j y h1 (by omega))
    unfold sel at ih
    rw [ih]
    cases z : ws[i + n]? with
    | none => simp
    | some y => simp [h (i + n) y (by omega) (by omega) z]
theorem sel_next {ws fs : List Str} {i k : Nat} {y : Str} (hik : i ≤ k) (hy : ws[k]? = some y) (hm : y ∉ fs) (h : ∀ j y, i ≤ j → j < k → ws[j]? = some y → y ∈ fs) : sel (ws.take (k + 1)) fs = sel (ws.take i) fs ++ [y] := by
  rw [List.take_add_one, hy]
  obtain ⟨n, rfl⟩ : ∃ n, k = i + n := ⟨k - i, by omega⟩
  have ih := sel_same n h
  unfold sel at ih ⊢
  rw [List.filter_append, ih]
  simp [hm]
theorem sel_split (ws fs : List Str) (k : Nat) : sel ws fs = sel (ws.take k) fs ++ sel (ws.drop k) fs := by
  unfold sel
  rw [← List.filter_append, List.take_append_drop]
theorem sel_at {ws fs : List Str} {i k : Nat} {y : Str} (hik : i ≤ k) (hy : ws[k]? = some y) (hm : y ∉ fs) (h : ∀ j y, i ≤ j → j < k → ws[j]? = some y → y ∈ fs) : (sel ws fs)[(sel (ws.take i) fs).length]? = some y := by
  rw [sel_split ws fs (k + 1), sel_next hik hy hm h]
  simp
theorem sel_end {ws fs : List Str} {i : Nat} (h : ∀ j y, i ≤ j → ws[j]? = some y → y ∈ fs) : sel (ws.take i) fs = sel ws fs := by
  have := sel_same (ws := ws) (fs := fs) (i := i) ws.length (fun j y h1 _ h2 => h j y h1 h2)
  rw [List.take_of_length_le (by omega)] at this
  exact this.symm
section
variable {w : World} {s : Shared} {mg mb : Str → Option Value} {mean : ExcName → Option Value} {d u : Nat} {gd : Option (List Code)} {envL : Env} {LL : Nat} {oL : Obj} {E : Value → Shared → Prop}
variable {hB : Heap} {x dd bo so it wl S c : Nat} {oS : Obj} {wv : List Value} {ws fs : List Str}
theorem ff_iter (X : (hd.heap_1 w.params).In s.heap) (T : Top topProg lg mean mg mb s.heap) (hroom : d ≤ 390) (hu : u ≤ 3000) :
    codeAny (model prg w) ⟨none, d, some [envL], gd, u⟩ (.call (.ref 97) ⟨[.ref x], []⟩) (RetIt x s) s := by
  refine' call_anyN (news := []) X T (Kp.refl _) (Nat.le_refl _) (fun q hq => nomatch hq) ?k6 ?k7 (by unfold recursionLimit; show d < 1000; omega) ?k9 ?kB ?_ ?c2 ?c3 ?c4 ?c5; (case k6 => k_is); (case k7 => k_is); (case k9 => exact BindsTo.of_eq rfl); (case c5 => decide); (case kB => exact locs rfl); (case c2 => exact rfl); (case c3 => exact rfl); (case c4 => exact rfl)
  intro L' h' hL F' N' k1 X' T'; (try dsimp only)
  k_fold
  k_steps
  exact ⟨_, _, rfl, rfl, F'.keep⟩
structure FfSt (s₀ : Shared) (S it wl : Addr) (ws fs : List Str) (j : Nat) (s : Shared) : Prop where
  eq : ∃ h tk, s = { s₀ with heap := h, toks := tk }
  keep : ∀ b o, b ≠ it → b ≠ S → s₀.heap.get? b = some o → s.heap.get? b = some o
  itr : ∃ i oI, s.heap.get? it = some oI ∧ ItO wl i oI ∧ i ≤ ws.length ∧ (sel (ws.take i) fs).length = j
noncomputable def FfEn (s₀ : Shared) (S x dd bo so it LL : Nat) (mL : Str → Option Value) (s : Shared) : Prop :=
  ∃ h tk, s = { s₀ with heap := h, toks := tk } ∧ (∀ b o, b ≠ x → b ≠ dd → b ≠ bo → b ≠ so → b ≠ it → b ≠ S → b ≠ LL → s₀.heap.get? b = some o → h.get? b = some o) ∧ h.Ns LL mL
theorem ff_itr {s₀ : Shared} (X : (hd.heap_1 w.params).In hB) (T : Top topProg lg mean mg mb hB) (hk₀ : Kp hB s₀.heap)
    (hsz : hB.objs.size ≤ LL) (hx : hB.get? x = none) (hdn : hB.get? dd = none) (hbn : hB.get? bo = none) (hsn : hB.get? so = none) (hin : hB.get? it = none)
    (hox : s₀.heap.get? x = some (ffO dd bo it)) (hod : s₀.heap.get? dd = some (dictOf [] 0)) (hob : s₀.heap.get? bo = some (boundO "set.__contains__" (.ref so))) (hos : s₀.heap.get? so = some oS) (hoL : s₀.heap.get? LL = some oL) (hSn : s₀.heap.get? S = none)
    (hso : oS.SetObjOf (strKind prg w) (fun k => decide (k ∈ fs)) c) (hc : c ≤ 4000) (hw : s₀.heap.IsList wl wv.toArray) (hws : StrsAre wv ws)
    (hkL : envL.scope.kind ≠ .module) (hfL : envL.frame = some LL) {mL : Str → Option Value} (hnsL : ∀ h : Heap, h.get? LL = some oL → h.Ns LL mL)
    (hroom : d ≤ 390) (hu : u ≤ 2900) (n1 : so < bo) (n2 : bo < dd) (n3 : dd < x) (n4 : x < it) (hSi : S ≠ it) (nL : LL ≠ x ∧ LL ≠ dd ∧ LL ≠ bo ∧ LL ≠ so ∧ LL ≠ it) (nw : wl ≠ x ∧ wl ≠ dd ∧ wl ≠ bo ∧ wl ≠ so ∧ wl ≠ it ∧ wl ≠ LL) :
    Itr prg w ⟨none, d, some [envL], gd, u⟩ S x (sel ws fs).length (fun i v => ∃ y t, (sel ws fs)[i]? = some y ∧ v = .str y t) (FfSt s₀ S it wl ws fs) (FfEn s₀ S x dd bo so it LL mL) := by
  have ne : ∀ {b : Addr} {o : Obj}, s₀.heap.get? b = some o → b ≠ S := fun {b o} e z => by rw [z, hSn] at e; cases e
  have hSB : hB.get? S = none := by
    cases z : hB.get? S with
    | none => rfl
    | some o => rw [hk₀ _ _ z] at hSn; cases hSn
  have hLB : hB.get? LL = none := by
    cases z : hB.get? LL with
    | none => rfl
    | some o => exact absurd (Heap.lt_size z) (Nat.not_lt.mpr hsz)
  have base : ∀ {j s}, FfSt s₀ S it wl ws fs j s → Kp hB s.heap := fun st b o e => st.keep b o (fun z => by rw [z, hin] at e; cases e) (fun z => by rw [z, hSB] at e; cases e) (hk₀ b o e)
  have ox : ∀ {j s}, FfSt s₀ S it wl ws fs j s → s.heap.get? x = some (ffO dd bo it) := fun st => st.keep _ _ (show @Ne Nat _ _ from by omega) (ne hox) hox
  have od : ∀ {j s}, FfSt s₀ S it wl ws fs j s → s.heap.get? dd = some (dictOf [] 0) := fun st => st.keep _ _ (show @Ne Nat _ _ from by omega) (ne hod) hod
  have ob : ∀ {j s}, FfSt s₀ S it wl ws fs j s → s.heap.get? bo = some (boundO "set.__contains__" (.ref so)) := fun st => st.keep _ _ (show @Ne Nat _ _ from by omega) (ne hob) hob
  have os : ∀ {j s}, FfSt s₀ S it wl ws fs j s → s.heap.get? so = some oS := fun st => st.keep _ _ (show @Ne Nat _ _ from by omega) (ne hos) hos
  have ol : ∀ {j s}, FfSt s₀ S it wl ws fs j s → s.heap.get? LL = some oL := fun st => st.keep _ _ nL.2.2.2.2 (ne hoL) hoL
  have ow : ∀ {j s}, FfSt s₀ S it wl ws fs j s → s.heap.IsList wl wv.toArray := fun st => hw.at fun o e => st.keep _ _ nw.2.2.2.2.1 (ne e) e
  have fr : ∀ {j s}, FfSt s₀ S it wl ws fs j s → Fr hB LL s.heap mL := fun st => ⟨hnsL _ (ol st), base st, hsz⟩
  have inst : ∀ {j s}, FfSt s₀ S it wl ws fs j s → InstAt s.heap x (ffO dd bo it) 108 (some (dictOf [] 0)) := fun st => ⟨ox st, rfl, rfl, od st⟩
  have frame : ∀ i (s : Shared) h' tk, FfSt s₀ S it wl ws fs i s → (∀ b o, b ≠ S → s.heap.get? b = some o → h'.get? b = some o) → FfSt s₀ S it wl ws fs i { s with heap := h', toks := tk } := by
    intro i s h' tk st k
    obtain ⟨⟨h, tk0, rfl⟩, kp, ⟨i, oI, ho, hi⟩⟩ := st
    exact ⟨⟨h', tk, rfl⟩, fun b o q1 q2 e => k b o q2 (kp b o q1 q2 e), ⟨i, oI, k _ _ hSi.symm ho, hi⟩⟩
  have hid : ∀ {j s}, FfSt s₀ S it wl ws fs j s → ∃ i oI, s.heap.get? it = some oI ∧ ItO wl i oI ∧ i ≤ ws.length ∧ (sel (ws.take i) fs).length = j ∧ Kp hB (hideAll s.heap [it, x, dd, bo, so, LL]) ∧
      (∀ q ∈ [(it, oI), (x, ffO dd bo it), (dd, dictOf [] 0), (bo, boundO "set.__contains__" (.ref so)), (so, oS), (LL, oL)], s.heap.get? q.1 = some q.2 ∧ (hideAll s.heap [it, x, dd, bo, so, LL]).get? q.1 = none) ∧ (hideAll s.heap [it, x, dd, bo, so, LL]).IsList wl wv.toArray := by
    intro j s st
    obtain ⟨i, oI, ho, hi, hl, hj⟩ := st.itr
    refine ⟨i, oI, ho, hi, hl, hj, fun b ob' e => hideAll_get _ (base st b ob' e) fun hm => ?_, ?_, (ow st).at fun o e => hideAll_get _ e (by simp [nw.1, nw.2.1, nw.2.2.1, nw.2.2.2.1, nw.2.2.2.2.1, nw.2.2.2.2.2])⟩
    · rcases List.mem_cons.mp hm with z | hm
      · rw [z, hin] at e; cases e
      rcases List.mem_cons.mp hm with z | hm
      · rw [z, hx] at e; cases e
      rcases List.mem_cons.mp hm with z | hm
      · rw [z, hdn] at e; cases e
      rcases List.mem_cons.mp hm with z | hm
      · rw [z, hbn] at e; cases e
      rcases List.mem_cons.mp hm with z | hm
      · rw [z, hsn] at e; cases e
      · rw [List.mem_singleton.mp hm, hLB] at e; cases e
    · refine List.forall_mem_cons.mpr ⟨⟨ho, hideAll_none _ (by simp)⟩, List.forall_mem_cons.mpr ⟨⟨ox st, hideAll_none _ (by simp)⟩, List.forall_mem_cons.mpr ⟨⟨od st, hideAll_none _ (by simp)⟩, List.forall_mem_cons.mpr ⟨⟨ob st, hideAll_none _ (by simp)⟩, List.forall_mem_cons.mpr ⟨⟨os st, hideAll_none _ (by simp)⟩, List.forall_mem_cons.mpr ⟨⟨ol st, hideAll_none _ (by simp)⟩, List.forall_mem_nil _⟩⟩⟩⟩⟩⟩
  have next : ∀ {j s} {oS' : Obj} {Q : Option Value → Shared → Prop} {E : Value → Shared → Prop}, FfSt s₀ S it wl ws fs j s → s.heap.get? S = some oS' →
      (∀ v s', (∃ y t, (sel ws fs)[j]? = some y ∧ v = .str y t) → FfSt s₀ S it wl ws fs (j + 1) s' → s'.heap.get? S = some oS' → Q (some v) s') →
      (j = (sel ws fs).length → ∀ s', FfEn s₀ S x dd bo so it LL mL s' → s'.heap.get? S = some oS' → Q none s') → wpAny (model prg w) ⟨none, d, some [envL], gd, u⟩ (pyNext (.ref x)) Q E s := by
    intro j s oS' Q E st hS hQ hN
    obtain ⟨i, oI, ho, hI, hl, hj, kH, NH, hwH⟩ := hid st
    have hne : ∀ {b : Addr} {o : Obj}, s₀.heap.get? b = some o → S ≠ b := fun {b o} e z => ne e z.symm
    have hSH : (hideAll s.heap [it, x, dd, bo, so, LL]).get? S = some oS' := hideAll_get _ hS (by simp [hSi, hne hox, hne hod, hne hob, hne hos, hne hoL])
    refine owit_next (f := 104) (fr st) X (inst st) ?hs ?hf ?_
    case hs => k_is
    case hf => k_is
    refine wpAny_call (codeAny_mono (ff_next (oL := oL) (X.keeps kH) (T.keeps kH) (fun b o e => of_hideAll _ e) (Nat.le_of_eq (hideAll_size _ _)) NH hI hl hso hc hwH hws ?hne ⟨nL.1.symm, nL.2.1.symm, nL.2.2.1.symm, nL.2.2.2.1.symm⟩ hkL hfL hnsL hroom (by omega)) ?fin)
    case hne =>
      refine List.forall_mem_cons.mpr ⟨show @Ne Nat _ _ from by omega, List.forall_mem_cons.mpr ⟨show @Ne Nat _ _ from by omega, List.forall_mem_cons.mpr ⟨show @Ne Nat _ _ from by omega, List.forall_mem_cons.mpr ⟨show @Ne Nat _ _ from by omega, List.forall_mem_cons.mpr ⟨nL.2.2.2.2, List.forall_mem_nil _⟩⟩⟩⟩⟩
    case fin =>
      intro r s' hr
      rcases hr with ⟨k, y, t, h', tk, oI', hik, hy, hm, hall, rfl, rfl, kp', hobj, hit', hI'⟩ | ⟨hall, e, T', h', tk, rfl, rfl, kp', hT, _, hns⟩
      · refine hQ _ _ ⟨y, t, hj ▸ sel_at hik hy hm hall, rfl⟩ ⟨?_, ?_, ⟨k + 1, oI', hit', hI', (List.getElem?_eq_some_iff.mp hy).1, ?_⟩⟩ (kp' _ _ hSH)
        · obtain ⟨⟨h, tk0, rfl⟩, _, _⟩ := st
          exact ⟨h', tk, rfl⟩
        · intro b ob' q1 q2 e
          have e2 := st.keep b ob' q1 q2 e
          have hval : ∀ {q : Addr × Obj}, q ∈ [(x, ffO dd bo it), (dd, dictOf [] 0), (bo, boundO "set.__contains__" (.ref so)), (so, oS), (LL, oL)] → b = q.1 → h'.get? b = some ob' := by
            intro q hq z
            have r1 := hobj q hq
            have r2 := (NH q (.tail _ hq)).1
            rw [← z] at r1 r2
            rw [e2] at r2
            rw [r1, ← r2]
          by_cases z1 : b = x
          · exact hval (.head _) z1
          by_cases z2 : b = dd
          · exact hval (.tail _ (.head _)) z2
          by_cases z3 : b = bo
          · exact hval (.tail _ (.tail _ (.head _))) z3
          by_cases z4 : b = so
          · exact hval (.tail _ (.tail _ (.tail _ (.head _)))) z4
          by_cases z5 : b = LL
          · exact hval (.tail _ (.tail _ (.tail _ (.tail _ (.head _))))) z5
          exact kp' _ _ (hideAll_get _ e2 (by simp [q1, z1, z2, z3, z4, z5]))
        · rw [sel_next hik hy hm hall, List.length_append, hj]; rfl
      · refine wpAny_isInstance (b := true) hT.type isSubtype_stop ?_
        rw [if_pos rfl]
        refine hN (by rw [← hj, sel_end hall]) _ ?_ (kp' _ _ hSH)
        refine ⟨h', tk, ?_, ?_, hns⟩
        · obtain ⟨⟨h, tk0, rfl⟩, _, _⟩ := st
          rfl
        · intro b ob' q1 q2 q3 q4 q5 q6 q7 e
          exact kp' _ _ (hideAll_get _ (st.keep b ob' q5 q6 e) (by simp [q1, q2, q3, q4, q5, q7]))
  refine ⟨frame, ?_, ?_, ?_, ?_⟩
  · intro i s oS' Q E hi st hS hQ
    exact next st hS hQ (fun z => by omega)
  · intro s oS' Q E st hS hQ
    refine next st hS (fun v s' hv => ?_) fun _ => hQ
    obtain ⟨y, t, hy, _⟩ := hv
    have := (List.getElem?_eq_some_iff.mp hy).1
    omega
  · intro s Q E st hQ
    refine owit_iter (f := 97) (fr st) X (inst st) ?hs3 ?hf3 ?_
    case hs3 => k_is
    case hf3 => k_is
    refine wpAny_call (codeAny_mono (ff_iter (X.keeps (base st)) (T.keeps (base st)) hroom (by omega)) fun r s' hr => ?_)
    obtain ⟨h', tk, rfl, rfl, kp⟩ := hr
    have st' := frame 0 s h' tk st fun b o _ e => kp b o e
    refine owit_it (g := .ref 104) (fr st') X (inst st') ?hs2 (hQ _ st' fun oS e => kp _ _ e)
    case hs2 => k_is
  · intro s st
    have X' := X.keeps (base st)
    exact ⟨.ref 108, fun M => (inst st).type, rfl, rfl, fun M => looks_findIn X' (by k_is), fun M => looks_findIn X' (by k_is)⟩
end
end Mine
namespace Mine
inductive DifD (w : World) (hB : Heap) (L : Addr) (news : List (Addr × Obj)) (x wl : Addr) (fs : List Str) (s : Shared) : Prop
  | mk (dd bo so it : Addr) (oS : Obj) (c : Nat) (oI : Obj) (p0 : s.heap.get? x = some (ffO dd bo it)) (p1 : s.heap.get? dd = some (dictOf [] 0)) (p2 : s.heap.get? bo = some (boundO "set.__contains__" (.ref so))) (p3 : (s.heap.get? so = some oS ∧ oS.SetObjOf (strKind prg w) (fun k => decide (k ∈ fs)) c ∧ c ≤ 4000)) (p4 : (s.heap.get? it = some oI ∧ ItO wl 0 oI)) (p5 : (@LT.lt Nat _ so bo ∧ @LT.lt Nat _ bo dd ∧ @LT.lt Nat _ dd x ∧ @LT.lt Nat _ x it)) (p6 : (hB.get? x = none ∧ hB.get? dd = none ∧ hB.get? bo = none ∧ hB.get? so = none ∧ hB.get? it = none)) (p7 : (∀ q ∈ news, q.1 ≠ x ∧ q.1 ≠ dd ∧ q.1 ≠ bo ∧ q.1 ≠ so ∧ q.1 ≠ it)) (p8 : (L ≠ x ∧ L ≠ dd ∧ L ≠ bo ∧ L ≠ so ∧ L ≠ it)) (p9 : (wl ≠ x ∧ wl ≠ dd ∧ wl ≠ bo ∧ wl ≠ so ∧ wl ≠ it ∧ wl ≠ L)) : DifD w hB L news x wl fs s
structure DifGS (w : World) (hB : Heap) (L : Addr) (m : Str → Option Value) (news : List (Addr × Obj)) (x wl : Addr) (wv : List Value) (fs : List Str) (s : Shared) : Prop where
  F : Fr hB L s.heap m
  N : News hB L s.heap news
  hw : s.heap.IsList wl wv.toArray
  dif : DifD w hB L news x wl fs s
section
variable {w : World} {s : Shared} {mg mb : Str → Option Value} {mean : ExcName → Option Value} {d u : Nat} {gd : Option (List Code)} {envL : Env} {E : Value → Shared → Prop} {hB base : Heap} {L : Addr} {m : Str → Option Value} {news : List (Addr × Obj)}
theorem diff_use {Q : Value → Shared → Prop} {wl fl : Addr} {wv fv : List Value} {cw cf : Nat} {fs : List Str} (X : (hd.heap_1 w.params).In hB) (T : Top topProg lg mean mg mb hB)
    (F : Fr hB L s.heap m) (N : News hB L s.heap news) (B : Below ⟨none, d, some [envL], gd, u⟩ base [envL] s.heap) (hroom : d < 500) (hw : (wl, listOf (List.toArray wv) cw) ∈ news) (hf : (fl, listOf (List.toArray fv) cf) ∈ news) (hfs : StrsAre fv fs) (hfl : fv.length ≤ 4000)
    (h : ∀ h' tk' x, DifGS w hB L m news x wl wv fs { s with heap := h', toks := tk' } → Q (.ref x) { s with heap := h', toks := tk' }) :
    wpAny (model prg w) ⟨none, d, some [envL], gd, u⟩ (call (.ref 155) [.ref wl, .ref fl]) Q E s := by
  have hwl : s.heap.IsList wl wv.toArray := ⟨_, (N _ hw).1, rfl, _, rfl⟩
  refine wpAny_call (codeAny_mono (diff_any (X.keeps F.keep) (T.keeps F.keep) B hroom hwl ⟨_, (N _ hf).1, rfl, _, rfl⟩ hfs hfl) fun r s' hr => ?_)
  obtain ⟨x, dd, bo, it, so, o, oS, c, h', tk, rfl, rfl, k, ⟨x0, d0, b0, i0, s0⟩, ⟨hx, rfl⟩, hdd, hbo, ⟨hso, hS, hc⟩, ⟨oI, hit, hI⟩, l1, l2, l3, l4⟩ := hr
  have ne : ∀ {b : Addr}, s.heap.get? b = none → ∀ q ∈ news, q.1 ≠ b := fun {b} e q hq z => by
    have := (N q hq).1
    rw [z, e] at this; cases this
  refine h h' tk x ⟨F.keeps k, fun q hq => ⟨k _ _ (N q hq).1, (N q hq).2⟩, hwl.at fun o e => k _ _ e, dd, bo, so, it, oS, c, oI, hx, hdd, hbo, ⟨hso, hS, hc⟩, ⟨hit, hI⟩, ⟨l1, l2, l3, l4⟩, ⟨(out_of F x0).1, (out_of F d0).1, (out_of F b0).1, (out_of F s0).1, (out_of F i0).1⟩,
    fun q hq => ⟨ne x0 q hq, ne d0 q hq, ne b0 q hq, ne s0 q hq, ne i0 q hq⟩, ⟨(out_of F x0).2.symm, (out_of F d0).2.symm, (out_of F b0).2.symm, (out_of F s0).2.symm, (out_of F i0).2.symm⟩, ne x0 _ hw, ne d0 _ hw, ne b0 _ hw, ne s0 _ hw, ne i0 _ hw, (N _ hw).2.1⟩
theorem list_diff {Q : Value → Shared → Prop} {x wl : Addr} {wv : List Value} {ws fs : List Str} (X : (hd.heap_1 w.params).In hB) (T : Top topProg lg mean mg mb hB)
    (G : DifGS w hB L m news x wl wv fs s) (hws : StrsAre wv ws) (hLs : hB.objs.size ≤ L) (hkL : envL.scope.kind ≠ .module) (hfL : envL.frame = some L) (hd : d ≤ 390) (hu : u ≤ 2800) (hwz : ws.length ≤ 1000)
    (h : ∀ h' tk B vs c, StrsAre vs (sel ws fs) → Fr hB L h' m → News hB L h' ((B, listOf (List.toArray vs) c) :: news) → (∀ q ∈ news, @LT.lt Nat _ q.1 B) → Q (.ref B) { s with heap := h', toks := tk }) :
    wpAny (model prg w) ⟨none, d, some [envL], gd, u⟩ (call (.type "list") [.ref x]) Q E s := by
  obtain ⟨F, N, hw, dd, bo, so, it, oS, c, oI, hx, hdd, hbo, ⟨hso, hS, hc⟩, ⟨hit, hI⟩, ⟨l1, l2, l3, l4⟩, ⟨x0, d0, b0, s0, i0⟩, ne, nL, nw⟩ := G
  obtain ⟨oL, es, ep, hoL, r1, r2⟩ := id F.ns
  have hnsL : ∀ h : Heap, h.get? L = some oL → h.Ns L m := fun h e => ⟨oL, es, ep, e, r1, r2⟩
  have sL : @LT.lt Nat _ L s.heap.objs.size := Heap.lt_size hoL
  have sI : @LT.lt Nat _ it s.heap.objs.size := Heap.lt_size hit
  have hSn : s.heap.get? s.heap.objs.size = none := get_above (Nat.le_refl _)
  have W := ff_itr (s₀ := s) (wv := wv) (ws := ws) (d := d) (u := u + 2) (gd := gd) (S := s.heap.objs.size) (envL := envL) X T F.keep hLs x0 d0 b0 s0 i0 hx hdd hbo hso hoL hSn hS hc hw hws hkL hfL hnsL hd (by omega) l1 l2 l3 l4 (show @Ne Nat _ _ from by omega) nL nw
  have hsz : (sel ws fs).length ≤ 1000 := Nat.le_trans (List.length_filter_le _ _) hwz
  refine Itr.list (A := ⟨none, d, some [envL], gd, u⟩) rfl W (show @Ne Nat _ _ from by omega) ⟨⟨s.heap, s.toks, rfl⟩, fun b o _ _ e => e, ⟨0, oI, hit, hI, Nat.zero_le _, rfl⟩⟩ (fun s' acc c he hS' hit' => ?_) (by rw [sizeLine_eq]; omega)
  obtain ⟨h', tk, rfl, hk, hNs⟩ := he
  obtain ⟨vs, rfl⟩ : ∃ vs, acc = List.toArray vs := ⟨acc.toList, by simp⟩
  have old : ∀ b o, s.heap.get? b = some o → b ≠ s.heap.objs.size := fun b o e => Nat.ne_of_lt (Heap.lt_size e)
  have hvs : StrsAre vs (sel ws fs) := by
    refine kdy_strs (by simpa using hit'.1) fun j v hv => ?_
    obtain ⟨y, t, hy, e⟩ := hit'.2 j v (by simpa using hv)
    exact ⟨y, hy, t, e⟩
  refine h h' tk s.heap.objs.size vs c hvs ⟨hNs, fun b ob e => ?_, F.above⟩ ?_ (fun q hq => Heap.lt_size (N q hq).1)
  · have e2 := F.keep b ob e
    exact hk _ _ (fun z => by rw [z, x0] at e; cases e) (fun z => by rw [z, d0] at e; cases e) (fun z => by rw [z, b0] at e; cases e) (fun z => by rw [z, s0] at e; cases e) (fun z => by rw [z, i0] at e; cases e) (old _ _ e2) (fun z => by rw [z, get_above hLs] at e; cases e) e2
  · refine List.forall_mem_cons.mpr ⟨⟨hS', Nat.ne_of_gt sL, get_above (Nat.le_trans F.above (Nat.le_of_lt sL))⟩, fun q hq => ?_⟩
    have nq := ne q hq
    have e2 := (N q hq).1
    exact ⟨hk _ _ nq.1 nq.2.1 nq.2.2.1 nq.2.2.2.1 nq.2.2.2.2 (old _ _ e2) (N q hq).2.1 e2, (N q hq).2⟩
end
end Mine
namespace Mine
theorem resetLb : True := by
  k_with_none
  w_top off
  trivial
theorem canonN {h₀ h : Heap} {L : Addr} {m m' : Str → Option Value} (ns : List Str) (F : Fr h₀ L h m) (e1 : ∀ x ∈ ns, m x = m' x) (e2 : ∀ z, z ∉ ns → m z = m' z) : Fr h₀ L h m' := by
  refine (funext fun z => ?_ : m = m') ▸ F
  by_cases hz : z ∈ ns
  · exact e1 z hz
  · exact e2 z hz
theorem lookup_ite {β : Type} (z a : Str) (x : β) (r : List (Str × β)) : List.lookup z ((a, x) :: r) = if z = a then some x else List.lookup z r := by
  by_cases h : z = a
  · subst h; simp [List.lookup]
  · rw [if_neg h]; simp [List.lookup, beq_eq_false_iff_ne.mpr h]
noncomputable def TblB (its : List Value) (n : Nat) (M : Nat → Bool) : Prop := its.length = n ∧ ∀ i, i < n → its[i]? = some (.bool (M i))
theorem TblB.snoc {tv : List Value} {n : Nat} {M : Nat → Bool} {b : Bool} (h : TblB tv n M) (hb : M n = b) : TblB (tv ++ [.bool b]) (n + 1) M := by
  refine ⟨by rw [List.length_append, h.1]; rfl, fun i hi => ?_⟩
  by_cases e : i < n
  · rw [List.getElem?_append_left (by rw [h.1]; exact e)]; exact h.2 i e
  · obtain rfl : i = n := by omega
    rw [List.getElem?_append_right (by rw [h.1]; exact Nat.le_refl _), h.1, hb]; simp
theorem subM {prog : Program} {w : World} {A : Around} {E : Value → Shared → Prop} {s : Shared} {h₀ : Heap} {L l : Addr} {m : Str → Option Value} {news : List (Addr × Obj)} {its : List Value} {c n : Nat} {i : Int} {u : Tok} {M : Nat → Bool} {value slice : Expr} {Q : Value → Shared → Prop}
    (N : News h₀ L s.heap news) (hm : (l, listOf (List.toArray its) c) ∈ news) (tb : TblB its n M) (h0 : 0 ≤ i) (hi : i.toNat < n) (hn : n ≤ 100) (h : Q (.bool (M i.toNat)) s)
    (hs : subscripted slice false (.ref l) (.int i u) = operate [.ref l, .int i u] (getItem (.ref l) (.int i u))) : wpAny (model prog w) A (subscriptTail value slice (.ref l) (.int i u)) Q E s :=
  item_litK (vs := its) ⟨_, (N _ hm).1, rfl, _, rfl⟩ h0 (by have := tb.1; omega) (tb.2 _ hi) h hs
/-- marked: the place itself and all below it -/
noncomputable def under (U : Nat → Nat) (here : Nat) : Nat → Nat → Bool
  | 0, _ => false
  | f + 1, p => if p = 0 then false else decide (p = here) || under U here f (U p)
theorem under_fuel {U : Nat → Nat} {n here : Nat} (hU : Plain.Up n U) : ∀ f g p, p < n → p ≤ f → p ≤ g → under U here (f + 1) p = under U here (g + 1) p
  | f, g, p, hp, h1, h2 => by
    unfold under
    by_cases z : p = 0
    · rw [if_pos z, if_pos z]
    · rw [if_neg z, if_neg z]
      have hu := hU p (by omega) hp
      cases f with
      | zero => omega
      | succ f =>
        cases g with
        | zero => omega
        | succ g => rw [under_fuel hU f g (U p) (by omega) (by omega) (by omega)]
noncomputable def mark (U : Nat → Nat) (here p : Nat) : Bool := under U here (p + 1) p
theorem mark_zero {U : Nat → Nat} {here : Nat} : mark U here 0 = false := rfl
theorem mark_at {U : Nat → Nat} {n here p : Nat} (hU : Plain.Up n U) (h0 : 0 < p) (hp : p < n) : mark U here p = (decide (p = here) || mark U here (U p)) := by
  have hu := hU p h0 hp
  show under U here (p + 1) p = _
  obtain ⟨q, rfl⟩ : ∃ q, p = q + 1 := ⟨p - 1, by omega⟩
  rw [under, if_neg (by omega)]
  show _ = (_ || under U here (U (q + 1) + 1) (U (q + 1)))
  rw [under_fuel hU q (U (q + 1)) (U (q + 1)) (by omega) (by omega) (Nat.le_refl _)]
abbrev mmU (a1 : Option Value) (mk ul : Addr) (hv : Value) : Str → Option Value := fun z => if z = Str.ofString "place" then a1 else if z = Str.ofString "marks" then some (.ref mk) else if z = Str.ofString "here" then some hv else if z = Str.ofString "ups" then some (.ref ul) else none
local macro_rules | `(tactic| walk_at "call builtin:len") => rul (qcall `PySem.Value.builtin (qs "len") "r") `lenB "AAAO_!" 2 'n'
local macro_rules | `(tactic| walk_at "exec For Name Call cons nil") => rul none `for_open "_" 0 'n'
local macro_rules | `(tactic| walk_at "subscriptTail") => rul (qsub `PySem.Value.int) `subB "AAAOOO_S!" 1 'n'
local macro_rules | `(tactic| walk_at "subscriptTail") => rul (qsub `PySem.Value.int) `subM "AMAOOO_S!" 0 'n'
inductive MarkRes (s : Shared) (n : Nat) (U : Nat → Nat) (here : Nat) (r : Result) (s' : Shared) : Prop
  | mk (h : Heap) (tk : Nat) (mk : Addr) (mv : List Value) (c : Nat) (q0 : r = .ok (.ret (.ref mk))) (q1 : s' = { s with heap := h, toks := tk }) (q2 : Kp s.heap h) (q3 : (h.get? mk = some (listOf (List.toArray mv) c) ∧ s.heap.get? mk = none)) (q4 : TblB mv n (mark U here)) : MarkRes s n U here r s'
inductive MarkJ (s₀ : Shared) (L mk ul : Addr) (hv : Value) (U : Nat → Nat) (here : Nat) (i : Nat) (s' : Shared) : Prop
  | mk (h : Heap) (tk : Nat) (a1 : Option Value) (mv : List Value) (c : Nat) (q0 : s' = { s₀ with heap := h, toks := tk }) (q1 : Fr s₀.heap L h (mmU a1 mk ul hv)) (q2 : News s₀.heap L h [(mk, listOf (List.toArray mv) c)]) (q3 : TblB mv (i + 1) (mark U here)) : MarkJ s₀ L mk ul hv U here i s'
section
variable {w : World} {s : Shared} {mg mb : Str → Option Value} {mean : ExcName → Option Value} {d u : Nat} {gd : Option (List Code)} {outer : List Env} {E : Value → Shared → Prop}
theorem under_any (X : (hd.heap_1 w.params).In s.heap) (T : Top topProg lg mean mg mb s.heap) {ul : Addr} {uv : List Value} {n cU here : Nat} {th : Tok} {U : Nat → Nat} (hl : s.heap.get? ul = some (listOf (List.toArray uv) cU)) (hi : TblI uv n U) (hn : n ≤ 90) (h1n : 1 ≤ n) (hU : Plain.Up n U) (hroom : d ≤ 380) (hu : u ≤ 2000) :
    codeAny (model prg w) ⟨none, d, some outer, gd, u⟩ (.call (.ref 188) ⟨[.ref ul, .int (here : Nat) th], []⟩) (MarkRes s n U here) s := by
  refine' call_anyN (news := []) X T (Kp.refl _) (Nat.le_refl _) (fun q hq => nomatch hq) ?k6 ?k7 (by unfold recursionLimit; show d < 1000; omega) ?k9 ?kB ?_ ?c2 ?c3 ?c4 ?c5; (case k6 => k_is); (case k7 => k_is); (case k9 => exact BindsTo.of_eq rfl); (case c5 => decide); (case kB => exact locs rfl); (case c2 => exact rfl); (case c3 => exact rfl); (case c4 => exact rfl)
  intro L' h' hL F' N' k1 X' T'; (try dsimp only)
  change Fr s.heap L' h' (fun y => List.lookup y [(Str.ofString "here", Value.int (here : Nat) th), (Str.ofString "ups", Value.ref ul)]) at F'
  simp only [lookup_ite, List.lookup_nil] at F'
  k_fold
  k_steps
  with_reducible rename IsRange _ _ _ _ _ _ _ _ => rng
  with_reducible rename Fr _ _ _ _ => kF
  with_reducible rename News _ _ _ _ => kN
  show wpAny _ _ (pyIter _) _ _ _
  refine wpAny_pyIter_range rng (small_one (by decide) (by decide) (by omega) (by omega)) ?_
  rename_i _ mk _ _ hq Fq Nq x100 x101 hh tq t1 u1 v1 oldk
  clear Fq Nq oldk rng
  have hIn2 : s.heap.get? hh.objs.size = none := fr_none kF (Nat.le_refl _)
  have hLI : @LT.lt Nat _ L' hh.objs.size := kF.ns.lt
  have hkI : @LT.lt Nat _ mk hh.objs.size := Heap.lt_size (kN _ (.head _)).1
  have kF2 : Fr s.heap L' hh (mmU none mk ul (.int (here : Nat) th)) := by
    refine canonN [Str.ofString "marks", Str.ofString "here", Str.ofString "ups"] kF ?_ ?_
    · refine List.forall_mem_cons.mpr ⟨?_, List.forall_mem_cons.mpr ⟨?_, List.forall_mem_cons.mpr ⟨?_, List.forall_mem_nil _⟩⟩⟩ <;> with_unfolding_all rfl
    · intro z hz
      simp only [List.mem_cons, not_or] at hz
      simp only [mmU, if_neg hz.1, if_neg hz.2.1, if_neg hz.2.2.1, ite_self]
  refine for_walks (W := Walks.range rfl _ 1 1 (n - 1)) ?hex (J := MarkJ s L' mk ul (.int (here : Nat) th) U here) ?hfr ?h0 ?hst ?turn ?done
  case hex => rintro i h e; exact ⟨_, e⟩
  case hfr =>
    rintro i s' h' tk' ⟨h1, tk1, a1, mv, c, rfl, F1, N1, M1⟩ old
    exact ⟨h', tk', a1, mv, c, rfl, fr_old F1 (Nat.ne_of_lt hLI) hIn2 old, List.forall_mem_cons.mpr ⟨⟨old _ _ (Nat.ne_of_lt hkI) (N1 _ (.head _)).1, (N1 _ (.head _)).2⟩, List.forall_mem_nil _⟩, M1⟩
  case h0 => exact ⟨_, _, none, _, _, rfl, fr_old kF2 (Nat.ne_of_lt hLI) hIn2 (fun b o _ e => Heap.get?_push_of_some _ e), List.forall_mem_cons.mpr ⟨⟨Heap.get?_push_of_some _ (kN _ (.head _)).1, (kN _ (.head _)).2⟩, List.forall_mem_nil _⟩, ⟨rfl, fun i hi => by (obtain rfl : i = 0 := by omega); rfl⟩⟩
  case hst =>
    have hr : Builtin.Range.rangeSize 1 (n : Int) 1 = ((n - 1 : Nat) : Int) - ((0 : Nat) : Int) := by rw [rangeSize_nat]; omega
    show IsRangeIter _ _ _ _ _
    rw [← hr]
    exact Heap.get?_push_size _ rfl
  case turn =>
    rintro i x s₁ oI hin ⟨t, rfl⟩ ⟨h1, tk1, a1, mv, c, rfl, F1, N1, M1⟩ hoI
    obtain ⟨p, hp⟩ : ∃ p, p = i + 1 := ⟨_, rfl⟩
    rw [show (1 : Int) + (i : Int) * 1 = ((p : Nat) : Int) from by omega]
    have hUp : U ((p : Nat) : Int).toNat < p := by rw [Int.toNat_natCast]; exact hU p (by omega) (by omega)
    have hM := mark_at (here := here) hU (show 0 < p by omega) (show p < n by omega)
    rw [← hp] at M1
    have N3 : News s.heap L' h1 [(hh.objs.size, oI), (mk, listOf (List.toArray mv) c)] := List.forall_mem_cons.mpr ⟨⟨hoI, (Nat.ne_of_lt hLI).symm, hIn2⟩, N1⟩
    have hml : (List.toArray mv).size ≤ 100 := by simp only [List.size_toArray]; rw [M1.1]; omega
    clear N1 hoI kF kN kF2
    refine wpAny_mono (Q := fun _ s₂ => wpAny _ _ _ _ _ s₂) ?_ (fun _ _ z => z) fun _ _ z => z
    k_fold
    k_steps
    all_goals (try k_data)
    · with_reducible rename Fr _ _ _ _ => kF3
      with_reducible rename News _ _ _ _ => kN3
      with_reducible rename @Eq Int _ _ => e0
      simp only [List.push_toArray] at kN3
      have e : p = here := Int.ofNat.inj e0
      subst hp
      exact ⟨⟨_, _, some _, _, _, rfl, canonN [Str.ofString "place"] kF3 (List.forall_mem_cons.mpr ⟨rfl, List.forall_mem_nil _⟩) (fun z hz => by simp only [mmU, if_neg (fun q => hz (List.mem_singleton.mpr q))]), fun q hq => kN3 q (.tail _ hq), M1.snoc (by rw [hM, e]; simp)⟩, (kN3 _ (.head _)).1⟩
    · with_reducible rename Fr _ _ _ _ => kF3
      with_reducible rename News _ _ _ _ => kN3
      with_reducible rename Not (@Eq Int _ _) => e0
      simp only [List.push_toArray] at kN3
      have e : ¬ p = here := fun z => e0 (by rw [z])
      subst hp
      exact ⟨⟨_, _, some _, _, _, rfl, canonN [Str.ofString "place"] kF3 (List.forall_mem_cons.mpr ⟨rfl, List.forall_mem_nil _⟩) (fun z hz => by simp only [mmU, if_neg (fun q => hz (List.mem_singleton.mpr q))]), fun q hq => kN3 q (.tail _ hq), M1.snoc (by rw [hM]; simp [e])⟩, (kN3 _ (.head _)).1⟩
  case done =>
    rintro s₁ ⟨h1, tk1, a1, mv, c, rfl, F1, N1, M1⟩
    rw [show n - 1 + 1 = n from by omega] at M1
    clear kF kN kF2
    show wpAny _ _ _ _ _ _
    k_steps
    show MarkRes _ _ _ _ _ _
    exact ⟨_, _, mk, mv, c, rfl, rfl, F1.keep, ⟨(N1 _ (.head _)).1, (N1 _ (.head _)).2.2⟩, M1⟩
end
end Mine
namespace Mine
theorem resetLa : True := by
  k_with_none
  w_top off
  trivial
def Six (n : Nat) (D : Nat → Nat) : Prop := ∀ i, i < n → D i ≤ 6
inductive DownRes (h₀ : Heap) (s : Shared) (tx up dp pl tr : Addr) (w : World) (n : Nat) (T : Nat → Str) (U D : Nat → Nat) (r : Result) (s' : Shared) : Prop
  | mk (h : Heap) (tk : Nat) (v : Nat) (t : Tok) (n' : Nat) (T' : Nat → Str) (U' D' : Nat → Nat) (tv uv dv : List Value) (o : Obj) (kvs : List (Str × Value)) (cT cU cD : Nat) (q1 : r = .ok (.ret (.int (v : Nat) t))) (q2 : s' = { s with heap := h, toks := tk }) (q3 : Kp h₀ h)
    (q4 : h.get? pl = some o) (q5 : h.get? dp = some (listOf (List.toArray dv) cD)) (q6 : h.get? up = some (listOf (List.toArray uv) cU)) (q7 : h.get? tx = some (listOf (List.toArray tv) cT)) (q8 : s.heap.get? tr = h.get? tr)
    (r1 : TblS tv n' T') (r2 : TblI uv n' U') (r3 : TblI dv n' D') (r4 : o.IsDictOf (strKind prg w) kvs) (r5 : Places kvs n' T') (r6 : TreeOk n' T' U' D') (r7 : Six n' D') (r8 : v < n') (r9 : n ≤ n') (ra : n' ≤ n + 1) (rb : ∀ i, i < n → T' i = T i ∧ U' i = U i ∧ D' i = D i) : DownRes h₀ s tx up dp pl tr w n T U D r s'
local macro_rules | `(tactic| walk_at "binaryOp Mult str int") => tm1
local macro_rules | `(tactic| walk_at "binaryOp Add str str") => rulx none `KXadd.add "XXD_" 3 'n' `(tactic| (first | exact ShortT.use (by with_reducible assumption) (by omega) | exact good_len (by with_reducible assumption) | exact mul_len (by omega) | exact add_len (by (first | exact ShortT.use (by with_reducible assumption) (by omega) | exact good_len (by with_reducible assumption) | exact mul_len (by omega))) (by (first | exact ShortT.use (by with_reducible assumption) (by omega) | exact good_len (by with_reducible assumption) | exact mul_len (by omega)))))
local macro_rules | `(tactic| walk_at "subscriptTail") => rul (qsub `PySem.Value.int) `subI "AMAOOO_S!" 1 'n'
local macro_rules | `(tactic| walk_at "subscriptTail") => rul (qsub `PySem.Value.int) `subS "AMAOOO_S!" 1 'n'
local macro_rules | `(tactic| walk_at "subscriptTail") => rul (qsub `PySem.Value.str) `getD "AMAA_SG!" 0 'n'
local macro_rules | `(tactic| walk_at "subscriptTail") => rulx (qsub `PySem.Value.str) `getD "AMAX_SG!" 0 'n' `(tactic| exact valueAt_stored_self _ _ _)
local macro_rules | `(tactic| walk_at "call builtin:len") => rul (qcall `PySem.Value.builtin (qs "len") "r") `lenS "AMAO_!" 2 'n'
local macro_rules | `(tactic| walk_at "compareOp NotIn str ref") => rul none `notinD "AMAA__" 0 'i'
local macro_rules | `(tactic| size_fits) => `(tactic| (rw [sizeLine_eq]; omega))
local macro_rules | `(tactic| walk_at "call ref") => rul none `el_use "AAAAP_!" 7 's'
local macro_rules | `(tactic| walk_at "exec If") => do rul (some (← `(exec (Stmt.If (Expr.Compare (Expr.Subscript _ _ _) _ _ _) _ _ _) _))) `stop_out "_" 0 'n'
local macro_rules | `(tactic| walk_at "exec If") => do rul (some (← `(exec (Stmt.If (Expr.Compare (Expr.Name _ _) [CmpOp.NotIn] _ _) _ _ _) _))) `stop_out "_" 0 'n'
abbrev mmD (tr tx up dp pl : Addr) (rv hv a4 a5 : Option Value) : Str → Option Value := fun z =>
  if z = Str.ofString "here" then hv else if z = Str.ofString "slashes" then a4 else if z = Str.ofString "text" then a5 else if z = Str.ofString "places" then some (.ref pl) else if z = Str.ofString "depths" then some (.ref dp) else
  if z = Str.ofString "ups" then some (.ref up) else if z = Str.ofString "texts" then some (.ref tx) else if z = Str.ofString "rest" then rv else if z = Str.ofString "tree" then some (.ref tr) else none
theorem canonD {h₀ h : Heap} {L tr tx up dp pl : Addr} {m : Str → Option Value} {rv hv a4 a5 : Option Value} (F : Fr h₀ L h m) (e1 : ∀ x ∈ [Str.ofString "here", Str.ofString "slashes", Str.ofString "text", Str.ofString "places", Str.ofString "depths", Str.ofString "ups", Str.ofString "texts", Str.ofString "rest", Str.ofString "tree"], m x = mmD tr tx up dp pl rv hv a4 a5 x)
    (e2 : ∀ z, z ≠ Str.ofString "here" → z ≠ Str.ofString "slashes" → z ≠ Str.ofString "text" → z ≠ Str.ofString "places" → z ≠ Str.ofString "depths" → z ≠ Str.ofString "ups" → z ≠ Str.ofString "texts" → z ≠ Str.ofString "rest" → z ≠ Str.ofString "tree" → m z = none) : Fr h₀ L h (mmD tr tx up dp pl rv hv a4 a5) := by
  refine canonN _ F e1 fun z hz => ?_
  simp only [List.mem_cons, not_or] at hz
  obtain ⟨z1, z2, z3, z4, z5, z6, z7, z8, z9, _⟩ := hz
  rw [e2 z z1 z2 z3 z4 z5 z6 z7 z8 z9]
  simp only [mmD, ↓if_neg z1, ↓if_neg z2, ↓if_neg z3, ↓if_neg z4, ↓if_neg z5, ↓if_neg z6, ↓if_neg z7, ↓if_neg z8, ↓if_neg z9]
section
variable {w : World} {s : Shared} {mg mb : Str → Option Value} {mean : ExcName → Option Value} {d u : Nat} {gd : Option (List Code)} {outer : List Env} {E : Value → Shared → Prop} {h₀ : Heap} {tx up dp pl tr : Addr}
set_option maxHeartbeats 2000000 in
theorem down_any (X : (hd.heap_1 w.params).In h₀) (T : Top topProg lg mean mg mb h₀) (k₀ : Kp h₀ s.heap) (hs₀ : h₀.objs.size ≤ s.heap.objs.size)
    {n last : Nat} {Tx : Nat → Str} {U D : Nat → Nat} {tv uv dv : List Value} {cT cU cD cR : Nat} {o : Obj} {kvs : List (Str × Value)} {rest : Int} {tl tq : Tok}
    (N : ∀ q ∈ [(pl, o), (dp, listOf (List.toArray dv) cD), (up, listOf (List.toArray uv) cU), (tx, listOf (List.toArray tv) cT), (tr, listOf #[.ref tx, .ref up, .ref dp, .ref pl] cR)], s.heap.get? q.1 = some q.2 ∧ h₀.get? q.1 = none)
    (hlt : @LT.lt Nat _ tx up ∧ @LT.lt Nat _ up dp ∧ @LT.lt Nat _ dp pl ∧ @LT.lt Nat _ pl tr) (lo : (pl == sysModules) = false)
    (hT : TblS tv n Tx) (hU : TblI uv n U) (hD : TblI dv n D) (hdi : o.IsDictOf (strKind prg w) kvs) (hP : Places kvs n Tx) (hTr : TreeOk n Tx U D) (h6 : Six n D) (hlast : last < n) (hn : n ≤ 80) (hroom : d ≤ 380) (hu : u ≤ 2000) :
    codeAny (model prg w) ⟨none, d, some outer, gd, u⟩ (.call (.ref 169) ⟨[.ref tr, .int (last : Nat) tl, .int rest tq], []⟩) (DownRes h₀ s tx up dp pl tr w n Tx U D) s := by
  refine' call_anyN X T k₀ hs₀ N ?k6 ?k7 (by unfold recursionLimit; show d < 1000; omega) ?k9 ?kB ?_ ?c2 ?c3 ?c4 ?c5; (case k6 => k_is); (case k7 => k_is); (case k9 => exact BindsTo.of_eq rfl); (case c5 => decide); (case kB => exact locs rfl); (case c2 => exact rfl); (case c3 => exact rfl); (case c4 => exact rfl)
  intro L' h' hL F' N' k1 X' T'; (try dsimp only)
  change Fr h₀ L' h' (fun y => List.lookup y [(Str.ofString "rest", Value.int rest tq), (Str.ofString "here", Value.int (last : Nat) tl), (Str.ofString "tree", Value.ref tr)]) at F'
  simp only [lookup_ite, List.lookup_nil] at F'
  have f3 := (fdiv_fmod_facts rest 3).2.2.1 (by decide)
  have hsh : ShortT n Tx := hTr.short
  have hN := N
  have hDl : D ((last : Nat) : Int).toNat ≤ 6 := by rw [Int.toNat_natCast]; exact h6 _ hlast
  clear N k1
  show wpAny _ _ _ _ _ _
  k_fold
  k_steps
  refine ⟨?_⟩
  with_reducible rename Fr _ _ _ _ => F2
  with_reducible rename News _ _ _ _ => N2
  refine' two (fun tail2 => ?_) ?_
  rotate_left
  refine wpAny_If ?_
  k_steps
  rotate_left 1
  · with_reducible rename Fr _ _ _ _ => kF
    with_reducible rename News _ _ _ _ => kN
    rename_i dT dne tk9 l0 _ _ _ _ _ _ _ xE tE _ _ hE _ _ _ hX
    obtain ⟨b4, t1, t2, kF2⟩ : ∃ b4 t1 t2, Fr h₀ L' hX (mmD tr tx up dp pl (some (.int rest tq)) (some (.int (last : Nat) t1)) b4 (some (.str (Tx ((last : Nat) : Int).toNat ++ Txt.mul (Str.ofString "/") (rest.fmod 3 + 0) ++ xE) t2))) := ⟨_, _, _, canonD kF (by refine List.forall_mem_cons.mpr ⟨?_, List.forall_mem_cons.mpr ⟨?_, List.forall_mem_cons.mpr ⟨?_, List.forall_mem_cons.mpr ⟨?_, List.forall_mem_cons.mpr ⟨?_, List.forall_mem_cons.mpr ⟨?_, List.forall_mem_cons.mpr ⟨?_, List.forall_mem_cons.mpr ⟨?_, List.forall_mem_cons.mpr ⟨?_, List.forall_mem_nil _⟩⟩⟩⟩⟩⟩⟩⟩⟩ <;> rfl) (by intro z z1 z2 z3 z4 z5 z6 z7 z8 z9; simp only [↓if_neg z1, ↓if_neg z2, ↓if_neg z3, ↓if_neg z4, ↓if_neg z5, ↓if_neg z6, ↓if_neg z7, ↓if_neg z8, ↓if_neg z9])⟩
    have hx : NewT n Tx D (last : Nat) (Tx ((last : Nat) : Int).toNat ++ Txt.mul (Str.ofString "/") (rest.fmod 3 + 0) ++ xE) ∧ D ((last : Nat) : Int).toNat + 1 ≤ 6 := ⟨⟨by omega, by omega, by omega, _, xE, hE, by omega, by omega, .inl (by omega), rfl⟩, by omega⟩
    clear kF l0 dne
    generalize ((last : Nat) : Int) = v at kF2 hx
    generalize Tx v.toNat ++ Txt.mul (Str.ofString "/") (rest.fmod 3 + 0) ++ xE = x at kF2 hx
    revert kF2 kN hx
    revert b4 t1 t2 v x tk hX
    exact tail2.out
  · with_reducible rename Fr _ _ _ _ => kF
    with_reducible rename News _ _ _ _ => kN
    rename_i dT dne tk9 l0 _ _ _ _ _ _ _ xE tE _ _ hE _ _ _ hX
    obtain ⟨b4, t1, t2, kF2⟩ : ∃ b4 t1 t2, Fr h₀ L' hX (mmD tr tx up dp pl (some (.int rest tq)) (some (.int (last : Nat) t1)) b4 (some (.str (Tx ((last : Nat) : Int).toNat ++ Txt.mul (Str.ofString "/") (rest.fmod 3 + 1) ++ xE) t2))) := ⟨_, _, _, canonD kF (by refine List.forall_mem_cons.mpr ⟨?_, List.forall_mem_cons.mpr ⟨?_, List.forall_mem_cons.mpr ⟨?_, List.forall_mem_cons.mpr ⟨?_, List.forall_mem_cons.mpr ⟨?_, List.forall_mem_cons.mpr ⟨?_, List.forall_mem_cons.mpr ⟨?_, List.forall_mem_cons.mpr ⟨?_, List.forall_mem_cons.mpr ⟨?_, List.forall_mem_nil _⟩⟩⟩⟩⟩⟩⟩⟩⟩ <;> rfl) (by intro z z1 z2 z3 z4 z5 z6 z7 z8 z9; simp only [↓if_neg z1, ↓if_neg z2, ↓if_neg z3, ↓if_neg z4, ↓if_neg z5, ↓if_neg z6, ↓if_neg z7, ↓if_neg z8, ↓if_neg z9])⟩
    have hx : NewT n Tx D (last : Nat) (Tx ((last : Nat) : Int).toNat ++ Txt.mul (Str.ofString "/") (rest.fmod 3 + 1) ++ xE) ∧ D ((last : Nat) : Int).toNat + 1 ≤ 6 := ⟨⟨by omega, by omega, by omega, _, xE, hE, by omega, by omega, .inr (by omega), rfl⟩, by omega⟩
    exact tail2.out _ _ _ _ _ _ _ kN kF2 hx
  rotate_right 1
  · with_reducible rename Fr _ _ _ _ => kF
    with_reducible rename News _ _ _ _ => kN
    rename_i dT dne tk9 _ _ _ _ _ _ _ _ xE tE _ _ hE _ _ _ hX
    obtain ⟨b4, t1, t2, kF2⟩ : ∃ b4 t1 t2, Fr h₀ L' hX (mmD tr tx up dp pl (some (.int rest tq)) (some (.int 0 t1)) b4 (some (.str (Tx (0 : Int).toNat ++ Txt.mul (Str.ofString "/") (rest.fmod 3 + 0) ++ xE) t2))) := ⟨_, _, _, canonD kF (by refine List.forall_mem_cons.mpr ⟨?_, List.forall_mem_cons.mpr ⟨?_, List.forall_mem_cons.mpr ⟨?_, List.forall_mem_cons.mpr ⟨?_, List.forall_mem_cons.mpr ⟨?_, List.forall_mem_cons.mpr ⟨?_, List.forall_mem_cons.mpr ⟨?_, List.forall_mem_cons.mpr ⟨?_, List.forall_mem_cons.mpr ⟨?_, List.forall_mem_nil _⟩⟩⟩⟩⟩⟩⟩⟩⟩ <;> rfl) (by intro z z1 z2 z3 z4 z5 z6 z7 z8 z9; simp only [↓if_neg z1, ↓if_neg z2, ↓if_neg z3, ↓if_neg z4, ↓if_neg z5, ↓if_neg z6, ↓if_neg z7, ↓if_neg z8, ↓if_neg z9])⟩
    have hx : NewT n Tx D 0 (Tx (0 : Int).toNat ++ Txt.mul (Str.ofString "/") (rest.fmod 3 + 0) ++ xE) ∧ D (0 : Int).toNat + 1 ≤ 6 := by
      have := hTr.root.2.2
      exact ⟨⟨by omega, hTr.pos, by simp only [Int.toNat_zero, this]; omega, _, xE, hE, by omega, by omega, .inl rfl, rfl⟩, by simp only [Int.toNat_zero, this]; omega⟩
    exact tail2.out _ _ _ _ _ _ _ kN kF2 hx
  intro hX tk2 b4 t1 t2 v x kN kF hx
  refine ⟨?_⟩
  have hPl : kvs.length ≤ 100 := by have := hP.2.2; omega
  have hv0 := hx.1.1
  have hvn := hx.1.2.1
  have hdl : (List.toArray tv).size ≤ 100 ∧ (List.toArray uv).size ≤ 100 ∧ (List.toArray dv).size ≤ 100 := by
    simp only [List.size_toArray]; rw [hT.1, hU.1, hD.1]; omega
  have hN5 := (hN _ (.tail _ (.tail _ (.tail _ (.tail _ (.head _)))))).1
  clear F2 N2 hN f3 hDl
  show wpAny _ _ _ _ _ _
  refine wpAny_If ?_
  k_steps
  rotate_left
  · with_reducible rename Fr _ _ _ _ => kF
    with_reducible rename News _ _ _ _ => kN
    with_reducible rename valueAt _ _ = some _ => hva
    obtain ⟨j, tj, j1, j2, j3, rfl⟩ := hP.2.1 _ _ hva
    show DownRes _ _ _ _ _ _ _ _ _ _ _ _ _ _
    exact ⟨_, _, j, tj, n, Tx, U, D, tv, uv, dv, o, kvs, cT, cU, cD, rfl, rfl, kF.keep, (kN _ (.head _)).1, (kN _ (.tail _ (.head _))).1, (kN _ (.tail _ (.tail _ (.head _)))).1, (kN _ (.tail _ (.tail _ (.tail _ (.head _))))).1, hN5.trans (kN _ (.tail _ (.tail _ (.tail _ (.tail _ (.head _)))))).1.symm, hT, hU, hD, hdi, hP, hTr, h6, j2, Nat.le_refl _, by omega, fun i _ => ⟨rfl, rfl, rfl⟩⟩
  · with_reducible rename valueAt _ _ = none => hva
    (k_here; k_dflt (refine' setDS ?q0 ?q1 ?q2 ?q3 ?q4 ?_; (case q0 => k_asm); (case q1 => k_asm); (case q2 => k_updF); (case q3 => with_reducible assumption); (case q4 => rw [sizeLine_eq]; omega)); intro qa qb qc qd qe; (try dsimp only at qd))
    k_steps
    with_reducible rename Fr _ _ _ _ => kF
    with_reducible rename News _ _ _ _ => kN
    with_reducible rename Obj.IsDictOf _ _ (stored _ _ _) => hds
    simp only [List.push_toArray] at kN
    have hne : ∀ i, 0 < i → i < n → Tx i ≠ x := fun i h1 h2 e => by obtain ⟨t', ht⟩ := hP.1 i h1 h2; rw [e, hva] at ht; cases ht
    have h6' : Six (n + 1) (upd D n (D v.toNat + 1)) := fun i hi => by
      by_cases z : i < n
      · rw [upd_old z]; exact h6 i z
      · obtain rfl : i = n := by omega
        rw [upd_new]; exact hx.2
    show DownRes _ _ _ _ _ _ _ _ _ _ _ _ _ _
    exact ⟨_, _, n, _, n + 1, upd Tx n x, upd U n v.toNat, upd D n (D v.toNat + 1), _, _, _, _, _, _, _, _, rfl, rfl, kF.keep, (kN _ (.head _)).1, (kN _ (.tail _ (.head _))).1, (kN _ (.tail _ (.tail _ (.head _)))).1, (kN _ (.tail _ (.tail _ (.tail _ (.head _))))).1, hN5.trans (kN _ (.tail _ (.tail _ (.tail _ (.tail _ (.head _)))))).1.symm, hT.snoc, hU.snoc (by omega), hD.snoc (by omega), hds, hP.snoc hTr.pos hva, hTr.snoc hx.1 hne, h6', by omega, by omega, Nat.le_refl _, fun i hi => ⟨upd_old hi, upd_old hi, upd_old hi⟩⟩
end
end Mine
namespace Mine
theorem resetLc : True := by
  k_with_none
  w_top off
  trivial
/-- a told pair -/
noncomputable abbrev pairO (p q : Nat) (t1 t2 : Tok) : Obj := { cls := .type "tuple", data := .seq #[.int (p : Nat) t1, .int (q : Nat) t2] }
noncomputable def Tups (h : Heap) (its : List Value) (told : List (Nat × Nat)) : Prop :=
  its.length = told.length ∧ ∀ i p q : Nat, told[i]? = some (p, q) → ∃ a t1 t2, its[i]? = some (Value.ref a) ∧ h.get? a = some (pairO p q t1 t2)
theorem Tups.keeps {h h' : Heap} {its : List Value} {told : List (Nat × Nat)} (x : Tups h its told) (k : Kp h h') : Tups h' its told :=
  ⟨x.1, fun i p q e => by obtain ⟨a, t1, t2, e1, e2⟩ := x.2 i p q e; exact ⟨a, t1, t2, e1, k _ _ e2⟩⟩
section
variable {prog : Program} {w : World} {A : Around} {E : Value → Shared → Prop} {s : Shared} {h₀ : Heap} {L l : Addr} {m : Str → Option Value} {news : List (Addr × Obj)} {its : List Value} {c n : Nat} {i : Int} {u : Tok} {value slice : Expr} {Q : Value → Shared → Prop}
theorem sub0 {a p q : Nat} {t1 t2 : Tok} (F : Fr h₀ L s.heap m) (ha : h₀.get? a = some (pairO p q t1 t2)) (h : Q (.int (p : Nat) t1) s)
    (hs : subscripted slice false (.ref a) (.int 0 u) = operate [.ref a, .int 0 u] (getItem (.ref a) (.int 0 u))) : wpAny (model prog w) A (subscriptTail value slice (.ref a) (.int 0 u)) Q E s :=
  item_tupleT (l := [.int (p : Nat) t1, .int (q : Nat) t2]) ⟨_, F.keep _ _ ha, rfl, _, rfl⟩ (by decide) (by decide) (by rfl) (by rfl) h hs
theorem subTold {told : List (Nat × Nat)} (F : Fr h₀ L s.heap m) (hl : h₀.get? l = some (listOf (List.toArray its) c)) (tt : Tups h₀ its told) (bd : ∀ x ∈ told, x.1 < n) (h0 : 0 ≤ i) (hi : i.toNat < told.length) (hn : told.length ≤ 1000)
    (h : ∀ (a p q : Nat) t1 t2, told[i.toNat]? = some (p, q) → h₀.get? a = some (pairO p q t1 t2) → p < n → Q (.ref a) s)
    (hs : subscripted slice false (.ref l) (.int i u) = operate [.ref l, .int i u] (getItem (.ref l) (.int i u))) : wpAny (model prog w) A (subscriptTail value slice (.ref l) (.int i u)) Q E s := by
  obtain ⟨⟨p, q⟩, hx⟩ : ∃ x, told[i.toNat]? = some x := ⟨_, List.getElem?_eq_getElem hi⟩
  obtain ⟨a, t1, t2, e1, e2⟩ := tt.2 _ p q hx
  exact item_litK (vs := its) ⟨_, F.keep _ _ hl, rfl, _, rfl⟩ h0 (by omega) e1 (h a p q t1 t2 hx e2 (bd _ (List.mem_of_getElem? hx))) hs
theorem lenL {k : Nat} (F : Fr h₀ L s.heap m) (hl : h₀.get? l = some (listOf (List.toArray its) c)) (e : its.length = k) (hn : k ≤ 1000)
    (h : ∀ t t', Q (.int (k : Nat) t) { s with toks := t' }) : wpAny (model prog w) A (call (.builtin "len") [.ref l]) Q E s := by
  have e : (List.toArray its).size = k := by simpa using e
  refine call_len_list (items := List.toArray its) ⟨_, F.keep _ _ hl, rfl, _, rfl⟩ (by rw [e]; omega) ?_
  rw [e]
  exact h _ _
theorem notinI {d : Addr} {o : Obj} {kvs : List (Int × Value)} (N : News h₀ L s.heap news) (hp : (d, o) ∈ news) (hd : o.IsDictOf (PySem.intKind prog w) kvs) (lo : (d == sysModules) = false)
    (h1 : valueAt kvs i = none → Q (.bool true) { s with toks := s.toks + 1 }) (h2 : ∀ v, valueAt kvs i = some v → Q (.bool false) { s with toks := s.toks + 1 }) : wpAny (model prog w) A (compareOp .NotIn (.int i u) (.ref d)) Q E s := by
  refine wpAny_notIn_of (k := i) (intKind_is _ _ _ _) lo (kda_dict N hp hd).mapOf ?_
  cases e : valueAt kvs i with
  | none => exact h1 e
  | some v => exact h2 v e
theorem setDI {d : Addr} {g : Obj → List (Addr × Obj)} {o : Obj} {kvs : List (Int × Value)} {v : Value} {Q : Unit → Shared → Prop}
    (F : Fr h₀ L s.heap m) (N : News h₀ L s.heap news) (U : UpdF d o news g) (hd : o.IsDictOf (PySem.intKind prog w) kvs) (hsz : kvs.length ≤ sizeLine)
    (h : ∀ h' o', Fr h₀ L h' m → News h₀ L h' (g o') → o'.IsDictOf (PySem.intKind prog w) (stored kvs i v) → Q () { s with heap := h', toks := s.toks + 1 }) : wpAny (model prog w) A (setItem (.ref d) (.int i u) v) Q E s :=
  kda_set (knd := PySem.intKind prog w) F N U hd (intKind_is _ _ _ _) hsz h
end
/-- the places above, each with the first name below it -/
noncomputable def climb (U : Nat → Nat) (i : Nat) : Nat → List (Nat × Nat) → Nat → List (Nat × Nat)
  | 0, F, _ => F
  | f + 1, F, p => if p = 0 ∨ p ∈ F.map Prod.fst then F else climb U i f (F ++ [(p, i)]) (U p)
noncomputable def firsts (U : Nat → Nat) (l : List (Nat × Nat)) : List (Nat × Nat) := l.zipIdx.foldl (fun F x => climb U x.2 (U x.1.1 + 1) F (U x.1.1)) []
/-- the pairs of a dict of numbers -/
inductive Kvs : List (Int × Value) → List (Nat × Nat) → Prop
  | nil : Kvs [] []
  | cons {p i : Nat} {t : Tok} {kvs : List (Int × Value)} {F : List (Nat × Nat)} (h : Kvs kvs F) : Kvs (((p : Nat), .int (i : Nat) t) :: kvs) ((p, i) :: F)
theorem Kvs.snoc {p i : Nat} {t : Tok} : ∀ {kvs : List (Int × Value)} {F : List (Nat × Nat)}, Kvs kvs F → Kvs (kvs ++ [((p : Int), .int (i : Nat) t)]) (F ++ [(p, i)])
  | _, _, .nil => .cons .nil
  | _, _, .cons h => .cons (Kvs.snoc h)
theorem Kvs.at {p : Nat} : ∀ {kvs : List (Int × Value)} {F : List (Nat × Nat)}, Kvs kvs F → (valueAt kvs (p : Int) = none ∧ p ∉ F.map Prod.fst) ∨ (∃ i t, valueAt kvs (p : Int) = some (.int (i : Nat) t) ∧ (p, i) ∈ F)
  | _, _, .nil => .inl ⟨rfl, by simp⟩
  | _, _, .cons (p := q) (i := i) (t := t) h => by
    by_cases e : q = p
    · subst e
      exact .inr ⟨i, t, by simp [valueAt], .head _⟩
    · have e' : ¬ ((q : Nat) : Int) = (p : Int) := by omega
      rcases Kvs.at (p := p) h with ⟨a, b⟩ | ⟨j, t', a, b⟩
      · refine .inl ⟨?_, ?_⟩
        · unfold valueAt at a ⊢
          rw [List.find?_cons]
          simpa [e'] using a
        · simp only [List.map_cons, List.mem_cons, not_or]
          exact ⟨fun z => e z.symm, b⟩
      · refine .inr ⟨j, t', ?_, .tail _ b⟩
        unfold valueAt at a ⊢
        rw [List.find?_cons]
        simpa [e'] using a
theorem Kvs.length : ∀ {kvs : List (Int × Value)} {F : List (Nat × Nat)}, Kvs kvs F → kvs.length = F.length
  | _, _, .nil => rfl
  | _, _, .cons h => by rw [List.length_cons, List.length_cons, Kvs.length h]
theorem firsts_snoc {U : Nat → Nat} {told : List (Nat × Nat)} {k p q : Nat} (e : told[k]? = some (p, q)) : firsts U (told.take (k + 1)) = climb U k (U p + 1) (firsts U (told.take k)) (U p) := by
  have hk := (List.getElem?_eq_some_iff.mp e).1
  have hx := (List.getElem?_eq_some_iff.mp e).2
  unfold firsts
  rw [List.take_succ_eq_append_getElem hk, List.zipIdx_append, List.foldl_append, hx]
  simp [List.length_take, Nat.min_eq_left (Nat.le_of_lt hk)]
noncomputable def FOk (n : Nat) (F : List (Nat × Nat)) : Prop := (F.map Prod.fst).Nodup ∧ ∀ x ∈ F, 0 < x.1 ∧ x.1 < n
theorem FOk.snoc {n p i : Nat} {F : List (Nat × Nat)} (h : FOk n F) (h0 : p ≠ 0) (hp : p < n) (hn : p ∉ F.map Prod.fst) : FOk n (F ++ [(p, i)]) := by
  refine ⟨?_, fun x hx => ?_⟩
  · rw [List.map_append]
    refine List.nodup_append.mpr ⟨h.1, by simp, fun a ha b hb => ?_⟩
    have e : b = p := by simpa using hb
    rw [e]
    intro z; rw [z] at ha; exact hn ha
  · rcases List.mem_append.mp hx with hx | hx
    · exact h.2 x hx
    · rw [List.mem_singleton.mp hx]; exact ⟨Nat.pos_of_ne_zero h0, hp⟩
theorem climb_ok {U : Nat → Nat} {n i : Nat} (hU : Plain.Up n U) : ∀ (f : Nat) (F : List (Nat × Nat)) (p : Nat), FOk n F → p < n → FOk n (climb U i f F p)
  | 0, F, p, h, _ => h
  | f + 1, F, p, h, hp => by
    unfold climb
    by_cases z : p = 0 ∨ p ∈ F.map Prod.fst
    · rw [if_pos z]; exact h
    · rw [if_neg z]
      have z' := not_or.mp z
      exact climb_ok hU f _ _ (h.snoc z'.1 hp z'.2) (Nat.lt_trans (hU p (Nat.pos_of_ne_zero z'.1) hp) hp)
theorem climb_fuel {U : Nat → Nat} {n i : Nat} (hU : Plain.Up n U) : ∀ (f g : Nat) (F : List (Nat × Nat)) (p : Nat), p < f → p < g → p < n → climb U i f F p = climb U i g F p
  | 0, _, _, _, h, _, _ => absurd h (Nat.not_lt_zero _)
  | _ + 1, 0, _, _, _, h, _ => absurd h (Nat.not_lt_zero _)
  | f + 1, g + 1, F, p, h1, h2, hp => by
    unfold climb
    by_cases z : p = 0 ∨ p ∈ F.map Prod.fst
    · rw [if_pos z, if_pos z]
    · rw [if_neg z, if_neg z]
      have hu := hU p (Nat.pos_of_ne_zero (not_or.mp z).1) hp
      exact climb_fuel hU f g _ _ (by omega) (by omega) (by omega)
theorem up_lt {U : Nat → Nat} {n p : Nat} (hU : Plain.Up n U) (h0 : U 0 = 0) (hp : p < n) : U p < n := by
  rcases Nat.eq_zero_or_pos p with z | z
  · rw [z, h0]; rw [z] at hp; exact hp
  · exact Nat.lt_trans (hU p z hp) hp
theorem firsts_ok {U : Nat → Nat} {n : Nat} (hU : Plain.Up n U) (h0 : U 0 = 0) {told : List (Nat × Nat)} (bd : ∀ x ∈ told, x.1 < n) : FOk n (firsts U told) := by
  unfold firsts
  have key : ∀ (l : List ((Nat × Nat) × Nat)) (F : List (Nat × Nat)), (∀ x ∈ l, x.1.1 < n) → FOk n F → FOk n (l.foldl (fun F x => climb U x.2 (U x.1.1 + 1) F (U x.1.1)) F) := by
    intro l
    induction l with
    | nil => intro F _ h; exact h
    | cons x r ih =>
      intro F hb h
      exact ih _ (fun y hy => hb y (.tail _ hy)) (climb_ok hU _ _ _ h (up_lt hU h0 (hb x (.head _))))
  refine key _ _ (fun x hx => ?_) ⟨List.nodup_nil, fun x hx => nomatch hx⟩
  have := List.mem_zipIdx' hx
  exact bd _ (this.2 ▸ List.getElem_mem _)
theorem nodup_len : ∀ (n : Nat) (l : List Nat), l.Nodup → (∀ x ∈ l, x < n) → l.length ≤ n
  | 0, l, _, h => by
    cases l with
    | nil => exact Nat.le_refl _
    | cons x r => exact absurd (h x (.head _)) (Nat.not_lt_zero _)
  | n + 1, l, hl, h => by
    by_cases z : n ∈ l
    · have e := List.length_erase_of_mem z
      have := nodup_len n (l.erase n) (hl.erase n) fun x hx => by
        have h1 := h x (List.mem_of_mem_erase hx)
        have h2 : x ≠ n := fun q => by rw [q] at hx; exact (List.Nodup.not_mem_erase hl) hx
        omega
      omega
    · have := nodup_len n l hl fun x hx => by
        have h1 := h x hx
        have h2 : x ≠ n := fun q => z (q ▸ hx)
        omega
      omega
theorem FOk.length {n : Nat} {F : List (Nat × Nat)} (h : FOk n F) : F.length ≤ n := by
  have e := nodup_len n _ h.1 fun x hx => by
    obtain ⟨y, hy, rfl⟩ := List.mem_map.mp hx
    exact (h.2 y hy).2
  simpa using e
abbrev mmA (a1 a2 : Option Value) (d to ul : Addr) : Str → Option Value := fun z => if z = Str.ofString "i" then a1 else if z = Str.ofString "place" then a2 else if z = Str.ofString "first" then some (.ref d) else if z = Str.ofString "ups" then some (.ref ul) else if z = Str.ofString "told" then some (.ref to) else none
inductive AboveRes (w : World) (s : Shared) (U : Nat → Nat) (told : List (Nat × Nat)) (r : Result) (s' : Shared) : Prop
  | mk (h : Heap) (tk : Nat) (d : Addr) (o : Obj) (kvs : List (Int × Value)) (q0 : r = .ok (.ret (.ref d))) (q1 : s' = { s with heap := h, toks := tk }) (q2 : Kp s.heap h) (q3 : (h.get? d = some o ∧ s.heap.get? d = none)) (q4 : o.IsDictOf (PySem.intKind prg w) kvs) (q5 : Kvs kvs (firsts U told)) (q6 : (d == sysModules) = false) : AboveRes w s U told r s'
inductive AbJ (w : World) (s₀ : Shared) (L d to ul : Addr) (U : Nat → Nat) (told : List (Nat × Nat)) (i : Nat) (s' : Shared) : Prop
  | mk (h : Heap) (tk : Nat) (a1 : Option Value) (a2 : Option Value) (o : Obj) (kvs : List (Int × Value)) (q0 : s' = { s₀ with heap := h, toks := tk }) (q1 : Fr s₀.heap L h (mmA a1 a2 d to ul)) (q2 : News s₀.heap L h [(d, o)]) (q3 : o.IsDictOf (PySem.intKind prg w) kvs) (q4 : Kvs kvs (firsts U (told.take i))) : AbJ w s₀ L d to ul U told i s'
inductive ClJ (w : World) (d to ul I : Addr) (oI : Obj) (U : Nat → Nat) (n i : Nat) (ti : Tok) (G : List (Nat × Nat)) (k : Nat) (m : Str → Option Value) (news : List (Addr × Obj)) : Prop
  | mk (o : Obj) (kvs : List (Int × Value)) (F : List (Nat × Nat)) (t : Tok) (q0 : m = mmA (some (.int (i : Nat) ti)) (some (.int (k : Nat) t)) d to ul) (q1 : news = [(I, oI), (d, o)]) (q2 : o.IsDictOf (PySem.intKind prg w) kvs) (q3 : Kvs kvs F) (q4 : FOk n F) (q5 : k < n) (q6 : climb U i (k + 1) F k = G) : ClJ w d to ul I oI U n i ti G k m news
local macro_rules | `(tactic| walk_at "call builtin:len") => rul (qcall `PySem.Value.builtin (qs "len") "r") `lenL "AAAO_!" 2 'n'
local macro_rules | `(tactic| walk_at "exec For Name Call cons nil") => rul none `for_open "_" 0 'n'
local macro_rules | `(tactic| walk_at "subscriptTail") => rul (qsub `PySem.Value.int) `subB "AAAOOO_S!" 1 'n'
local macro_rules | `(tactic| walk_at "compareOp NotIn int ref") => rul none `notinI "AMAA__" 0 'i'
local macro_rules | `(tactic| walk_at "exec While") => rul none `stop_out "_" 0 'n'
local macro_rules | `(tactic| walk_at "last exec While") => rul none `stop_out "_" 0 'n'
section
variable {w : World} {s : Shared} {mg mb : Str → Option Value} {mean : ExcName → Option Value} {d u : Nat} {gd : Option (List Code)} {outer : List Env} {E : Value → Shared → Prop}
set_option maxHeartbeats 400000 in
theorem above_any (X : (hd.heap_1 w.params).In s.heap) (T : Top topProg lg mean mg mb s.heap) {ul to : Addr} {uv its : List Value} {n cU cT : Nat} {U : Nat → Nat} {told : List (Nat × Nat)}
    (hl : s.heap.get? ul = some (listOf (List.toArray uv) cU)) (hi : TblI uv n U) (hn : n ≤ 90) (h1n : 1 ≤ n) (hU : Plain.Up n U) (hU0 : U 0 = 0) (ht : s.heap.get? to = some (listOf (List.toArray its) cT)) (tt : Tups s.heap its told) (bd : ∀ x ∈ told, x.1 < n) (hk : told.length ≤ 500) (hroom : d ≤ 380) (hu : u ≤ 3000) :
    codeAny (model prg w) ⟨none, d, some outer, gd, u⟩ (.call (.ref 176) ⟨[.ref to, .ref ul], []⟩) (AboveRes w s U told) s := by
  refine' call_anyN (news := []) X T (Kp.refl _) (Nat.le_refl _) (fun q hq => nomatch hq) ?k6 ?k7 (by unfold recursionLimit; show d < 1000; omega) ?k9 ?kB ?_ ?c2 ?c3 ?c4 ?c5; (case k6 => k_is); (case k7 => k_is); (case k9 => exact BindsTo.of_eq rfl); (case c5 => decide); (case kB => exact locs rfl); (case c2 => exact rfl); (case c3 => exact rfl); (case c4 => exact rfl)
  intro L' h' hL F' N' k1 X' T'; (try dsimp only)
  change Fr s.heap L' h' (fun y => List.lookup y [(Str.ofString "ups", Value.ref ul), (Str.ofString "told", Value.ref to)]) at F'
  simp only [lookup_ite, List.lookup_nil] at F'
  have htl := tt.1
  show wpAny _ _ _ _ _ _
  k_fold
  k_steps
  with_reducible rename IsRange _ _ _ _ _ _ _ _ => rng
  with_reducible rename Fr _ _ _ _ => kF
  with_reducible rename News _ _ _ _ => kN
  show wpAny _ _ (pyIter _) _ _ _
  refine wpAny_pyIter_range rng (small_one (by decide) (by decide) (by omega) (by omega)) ?_
  rename_i dd _ o0 lo _ _ hid0 _ _ hq Fq Nq x100 x101 hh tq t1 u1 v1 oldk
  clear Fq Nq oldk rng
  have hIn2 : s.heap.get? hh.objs.size = none := fr_none kF (Nat.le_refl _)
  have hLI : @LT.lt Nat _ L' hh.objs.size := kF.ns.lt
  have hkI : @LT.lt Nat _ dd hh.objs.size := Heap.lt_size (kN _ (.head _)).1
  have kF2 : Fr s.heap L' hh (mmA none none dd to ul) := by
    refine canonN [Str.ofString "first", Str.ofString "ups", Str.ofString "told"] kF ?_ ?_
    · refine List.forall_mem_cons.mpr ⟨?_, List.forall_mem_cons.mpr ⟨?_, List.forall_mem_cons.mpr ⟨?_, List.forall_mem_nil _⟩⟩⟩ <;> with_unfolding_all rfl
    · intro z hz
      simp only [List.mem_cons, not_or] at hz
      simp only [mmA, if_neg hz.1, if_neg hz.2.1, if_neg hz.2.2.1, ite_self]
  refine for_walks (W := Walks.range rfl _ 0 1 told.length) ?hex (J := AbJ w s L' dd to ul U told) ?hfr ?h0 ?hst ?turn ?done
  case hex => rintro i h e; exact ⟨_, e⟩
  case hfr =>
    rintro i s' h' tk' ⟨h1, tk1, a1, a2, o, kvs, rfl, F1, N1, M1, M2⟩ old
    exact ⟨h', tk', a1, a2, o, kvs, rfl, fr_old F1 (Nat.ne_of_lt hLI) hIn2 old, List.forall_mem_cons.mpr ⟨⟨old _ _ (Nat.ne_of_lt hkI) (N1 _ (.head _)).1, (N1 _ (.head _)).2⟩, List.forall_mem_nil _⟩, M1, M2⟩
  case h0 => exact ⟨_, _, none, none, _, _, rfl, fr_old kF2 (Nat.ne_of_lt hLI) hIn2 (fun b o _ e => Heap.get?_push_of_some _ e), List.forall_mem_cons.mpr ⟨⟨Heap.get?_push_of_some _ (kN _ (.head _)).1, (kN _ (.head _)).2⟩, List.forall_mem_nil _⟩, hid0, .nil⟩
  case hst =>
    have hr : Builtin.Range.rangeSize 0 (told.length : Int) 1 = ((told.length : Nat) : Int) - ((0 : Nat) : Int) := by rw [show (0 : Int) = ((0 : Nat) : Int) from rfl, rangeSize_nat]; omega
    show IsRangeIter _ _ _ _ _
    rw [← hr]
    exact Heap.get?_push_size _ rfl
  case turn =>
    rintro i x s₁ oI hin ⟨t, rfl⟩ ⟨h1, tk1, a1, a2, o, kvs, rfl, F1, N1, hid, hK⟩ hoI
    rw [show (0 : Int) + (i : Int) * 1 = ((i : Nat) : Int) from by omega]
    have N3 : News s.heap L' h1 [(hh.objs.size, oI), (dd, o)] := List.forall_mem_cons.mpr ⟨⟨hoI, (Nat.ne_of_lt hLI).symm, hIn2⟩, N1⟩
    clear N1 hoI kF kN kF2
    refine wpAny_mono (Q := fun _ s₂ => wpAny _ _ _ _ _ s₂) ?_ (fun _ _ z => z) fun _ _ z => z
    k_fold
    k_steps
    with_reducible rename Fr _ _ _ _ => kF
    refine' subTold kF ht tt bd ?s1 ?s2 ?s3 ?_ ?s4
    case s1 => omega
    case s2 => omega
    case s3 => omega
    case s4 => with_unfolding_all rfl
    intro a p q t1 t2 e1 e2 hp
    k_steps
    refine' sub0 kF e2 ?_ ?s5
    case s5 => with_unfolding_all rfl
    k_steps
    refine ⟨?_⟩
    with_reducible rename Fr _ _ _ _ => kF3
    with_reducible rename News _ _ _ _ => kN3
    simp only [Int.toNat_natCast] at kF3 e1
    have hG := firsts_snoc (U := U) e1
    have hup : U p < n := up_lt hU hU0 hp
    have hok : FOk n (firsts U (told.take i)) := firsts_ok hU hU0 fun x hx => bd x (List.mem_of_mem_take hx)
    have kF4 := canonN (m' := mmA (some (.int (i : Nat) t)) (some (.int (U p : Nat) _)) dd to ul) [Str.ofString "place", Str.ofString "i"] kF3 (List.forall_mem_cons.mpr ⟨rfl, List.forall_mem_cons.mpr ⟨rfl, List.forall_mem_nil _⟩⟩) (by
      intro z hz
      simp only [List.mem_cons, not_or] at hz
      simp only [mmA, if_neg hz.1, if_neg hz.2.1])
    refine While_inv (ClJ w dd to ul hh.objs.size oI U n i t (firsts U (told.take (i + 1)))) kF4 kN3 ⟨_, _, _, _, rfl, rfl, hid, hK, hok, hup, hG.symm⟩ ?_
    clear kF3 kF4 kN3 hG hup hok e1 e2 hid hK
    rintro k m₁ news₁ h₂ tk₂ F₂ N₂ ⟨o2, kvs2, F, tp, rfl, rfl, hid2, hK2, hok2, hkn, hG2⟩
    have hkl : kvs2.length ≤ 100 := by rw [hK2.length]; exact Nat.le_trans hok2.length (by omega)
    show wpAny _ _ _ _ _ _
    k_steps
    · with_reducible rename valueAt _ _ = none => hva
      with_reducible rename Not (@Eq Int _ _) => hk0
      (k_here; k_dflt (refine' setDI ?q0 ?q1 ?q2 ?q3 ?q4 ?_; (case q0 => k_asm); (case q1 => k_asm); (case q2 => k_updF); (case q3 => with_reducible assumption); (case q4 => rw [sizeLine_eq]; omega)); intro qa qb qc qd qe; (try dsimp only at qd))
      k_steps
      with_reducible rename Fr _ _ _ _ => kF5
      with_reducible rename News _ _ _ _ => kN5
      have hk1 : k ≠ 0 := fun z => hk0 (by rw [z]; rfl)
      have hkn' : k ∉ F.map Prod.fst := by
        rcases hK2.at (p := k) with ⟨_, b⟩ | ⟨i', t', a, _⟩
        · exact b
        · rw [hva] at a; cases a
      have huk := hU k (Nat.pos_of_ne_zero hk1) hkn
      simp only [Int.toNat_natCast] at kF5
      rw [stored_absent hva] at qe
      refine WhileStep.intro (canonN (m' := mmA (some (.int (i : Nat) t)) (some (.int (U k : Nat) _)) dd to ul) [Str.ofString "place"] kF5 (List.forall_mem_cons.mpr ⟨rfl, List.forall_mem_nil _⟩) (fun z hz => by
        simp only [List.mem_singleton] at hz
        simp only [mmA, if_neg hz])) kN5 huk ⟨_, _, F ++ [(k, i)], _, rfl, rfl, qe, hK2.snoc, hok2.snoc hk1 hkn hkn', by omega, ?_⟩
      rw [← hG2]
      conv => rhs; unfold climb
      rw [if_neg (not_or.mpr ⟨hk1, hkn'⟩)]
      exact climb_fuel hU _ _ _ _ (Nat.lt_succ_self _) huk (by omega)
    · with_reducible rename valueAt _ _ = some _ => hva
      have hK3 : Kvs kvs2 (firsts U (told.take (i + 1))) := by
        rw [← hG2]; unfold climb
        rcases hK2.at (p := k) with ⟨a, _⟩ | ⟨i', t', _, b⟩
        · rw [hva] at a; cases a
        · rw [if_pos (.inr (List.mem_map.mpr ⟨_, b, rfl⟩))]; exact hK2
      exact ⟨⟨_, _, some _, some _, o2, kvs2, rfl, F₂, fun q hq => N₂ q (.tail _ hq), hid2, hK3⟩, (N₂ _ (.head _)).1⟩
    · with_reducible rename @Eq Int _ _ => hk0
      have hK3 : Kvs kvs2 (firsts U (told.take (i + 1))) := by
        rw [← hG2]; unfold climb
        rw [if_pos (.inl (Int.ofNat.inj hk0))]; exact hK2
      exact ⟨⟨_, _, some _, some _, o2, kvs2, rfl, F₂, fun q hq => N₂ q (.tail _ hq), hid2, hK3⟩, (N₂ _ (.head _)).1⟩
  case done =>
    rintro s₁ ⟨h1, tk1, a1, a2, o, kvs, rfl, F1, N1, hid, hK⟩
    rw [List.take_length] at hK
    clear kF kN kF2
    show wpAny _ _ _ _ _ _
    k_steps
    show AboveRes _ _ _ _ _ _
    exact ⟨_, _, dd, o, kvs, rfl, rfl, F1.keep, ⟨(N1 _ (.head _)).1, (N1 _ (.head _)).2.2⟩, hid, hK, lo⟩
end
end Mine
namespace Mine
section
variable {prog : Program} {w : World} {A : Around} {R : Result → Shared → Prop} {E : Value → Shared → Prop} {s : Shared}
/-- a comprehension that takes pairs apart -/
theorem comp_loopP {elt iter : Expr} {a b : Str} {pa pb tp : Pos} {x1 : Nat} {scope : Scope} {pos : Pos} {I D l : Addr} {cenv : Env} {items : Array Value} (hh : A.handled = none) (ha : cenv.kindOf a = some .local) (hb : cenv.kindOf b = some .local) (hab : a ≠ b)
    (hp : (cenv.scope.kind == .class || (cenv.scope.kind == .module && cenv.locals != cenv.globals)) = false) (hDC : D ≠ cenv.locals) (hID : I ≠ D) (hIC : I ≠ cenv.locals) (hlI : l ≠ I)
    (J : Nat → Array Value → Shared → Prop) (V : Nat → Value → Value → Prop)
    (hfr : ∀ i acc s' h' tk, J i acc s' → (∀ b o, b ≠ I → b ≠ D → b ≠ cenv.locals → s'.heap.get? b = some o → h'.get? b = some o) → J i acc { s' with heap := h', toks := tk })
    (hJl : ∀ i acc s', J i acc s' → s'.heap.IsList l items) (h0 : J 0 #[] s) (hI : s.heap.IsListIter I l 0) (hD : s.heap.get? D = some (listOf #[] 0)) (hn : ∃ m, s.heap.Ns cenv.locals m)
    (tup : ∀ i v acc s', items[i]? = some v → J i acc s' → ∃ t v1 v2, v = .ref t ∧ t ≠ I ∧ IsTup s'.heap t #[v1, v2] ∧ V i v1 v2)
    (turn : ∀ i v1 v2 acc s₃ oI oD oC E', i < items.size → V i v1 v2 → J i acc s₃ → s₃.heap.get? I = some oI → s₃.heap.get? D = some oD → s₃.heap.get? cenv.locals = some oC → (∀ h : Heap, h.get? cenv.locals = some oC → ∃ m, h.Ns cenv.locals m ∧ m a = some v1 ∧ m b = some v2) →
      wpAny (model prog w) A (eval elt cenv) (fun y s₅ => J (i + 1) (acc.push y) s₅ ∧ s₅.heap.get? I = some oI ∧ s₅.heap.get? D = some oD ∧ (∃ m, s₅.heap.Ns cenv.locals m)) E' s₃)
    (hR : ∀ acc c s', J items.size acc s' → s'.heap.get? D = some (listOf acc c) → (∃ m, s'.heap.Ns cenv.locals m) → R (.ok .next) s') (hsz : items.size ≤ sizeLine) :
    codeAny (model prog w) A (.compLoop (.ListComp elt [⟨.Tuple [.Name a pa, .Name b pb] x1 tp, iter, [], 0⟩] scope pos) 0 (.ref I) (.ref D) cenv) R s := by
  have W := Walks.list (prog := prog) (w := w) hh I l hlI items
  refine LCp.codeAny_compLoop_pair (fun k s' => ∃ i acc c, J i acc s' ∧ s'.heap.IsListIter I l i ∧ s'.heap.get? D = some (listOf acc c) ∧ (∃ m, s'.heap.Ns cenv.locals m) ∧ acc.size ≤ i ∧ i ≤ items.size ∧ k = items.size + 1 - i) ?_ (items.size + 1)
    ⟨0, #[], 0, h0, hI, hD, hn, Nat.le_refl _, Nat.zero_le _, rfl⟩
  rintro k s' ⟨i, acc, c, hJ, hIt, hDa, ⟨m, hns⟩, hac, hi, rfl⟩
  by_cases hlt : i < items.size
  · refine W.item i _ _ _ hlt ⟨hIt, hJl _ _ _ hJ⟩ fun v h' tk hv st hk => ?_
    obtain ⟨t, v1, v2, rfl, htI, htt, hV⟩ := tup i v acc _ hv hJ
    have hk' : ∀ b o, b ≠ I → s'.heap.get? b = some o → h'.get? b = some o := fun b o hb e => hk b o (fun z => hb (List.mem_singleton.mp z)) e
    have hns' : h'.Ns cenv.locals m := by obtain ⟨o, es, ep, e1, r⟩ := hns; exact ⟨o, es, ep, hk' _ _ hIC.symm e1, r⟩
    have ht' : IsTup h' t #[v1, v2] := by obtain ⟨o, e, r⟩ := htt; exact ⟨o, hk' _ _ htI e, r⟩
    refine wpAny_letOwnedTupleGo_listiter st.1 ?_
    refine assign_Tuple_tuple hh ht' rfl rfl fun h₅ he => ?_
    have he' : ∀ b o, h'.get? b = some o → h₅.get? b = some o := fun b o e => he b o (Nat.ne_of_lt (Heap.lt_size e)) e
    refine assignInOrder_cons (wpAny_assign_Name (wpAny_storeName_local ha (hns'.at' fun o e => he' _ o e) (fun h₆ hn₆ hs₆ => ?_) hp))
    refine assignInOrder_cons (wpAny_assign_Name (wpAny_storeName_local hb hn₆ (fun h₂ hn₂ hs₂ => ?_) hp))
    refine assignInOrder_nil ?_
    have old : ∀ b o, b ≠ cenv.locals → h'.get? b = some o → h₂.get? b = some o := fun b o q e => hs₂.extBut b o q (hs₆.extBut b o q (he' b o e))
    obtain ⟨oI, hoI, hI2⟩ := st.1
    obtain ⟨oC, es, ep, hoC, hC2⟩ := hn₂
    have hJ₂ := hfr i acc s' h₂ (tk + 1 + 1) hJ fun b o q1 q2 q3 e => old b o q3 (hk' b o q1 e)
    have hD₂ : h₂.get? D = some (listOf acc c) := old _ _ hDC (hk' _ _ hID.symm hDa)
    have hI₂ : h₂.get? I = some oI := old _ _ hIC hoI
    refine wpAny_mono (turn i v1 v2 acc _ oI _ oC _ hlt hV hJ₂ hI₂ hD₂ hoC (fun h e => ⟨_, ⟨oC, es, ep, e, hC2⟩, (if_neg hab).trans (if_pos rfl), if_pos rfl⟩)) (fun y s₅ h₅ => ?_) fun _ _ z => z
    obtain ⟨j5, i5, d5, m5, oC5, es5, ep5, c5, hC5⟩ := h₅
    refine append_at (hsz := by omega) d5 fun h₆ hs₆ ho₆ => ?_
    refine ⟨items.size + 1 - (i + 1), by omega, i + 1, acc.push y, c + 1, hfr _ _ s₅ h₆ s₅.toks j5 (fun b o q1 q2 q3 e => hs₆.extBut b o q2 e), ⟨oI, hs₆.extBut _ _ hID i5, hI2⟩, ho₆, ⟨m5, oC5, es5, ep5, hs₆.extBut _ _ hDC.symm c5, hC5⟩, ?_, hlt, rfl⟩
    rw [Array.size_push]; omega
  · obtain rfl : i = items.size := by omega
    refine W.done _ _ _ ⟨hIt, hJl _ _ _ hJ⟩ fun h' tk hk => ?_
    have hk' : ∀ b o, b ≠ I → s'.heap.get? b = some o → h'.get? b = some o := fun b o hb e => hk b o (fun z => hb (List.mem_singleton.mp z)) e
    refine hR acc c _ (hfr _ _ s' h' tk hJ fun b o q1 q2 q3 e => hk' b o q1 e) (hk' _ _ hID.symm hDa) ⟨m, ?_⟩
    obtain ⟨o, es, ep, e1, r⟩ := hns
    exact ⟨o, es, ep, hk' _ _ hIC.symm e1, r⟩
variable {env : Env}
theorem comp_blockP {elt iter : Expr} {a b : Str} {pa pb tp : Pos} {x1 : Nat} {scope : Scope} {cl : List (Str × Addr)} {pos : Pos} {s₂ : Shared} {I l D C : Addr} {items : Array Value} {RR : Value → Addr → Result → Shared → Prop} (hDD : D = s₂.heap.objs.size) (hCC : C = s₂.heap.objs.size + 1) (hh : A.handled = none)
    (hcell : ∀ y ∈ scope.names, y.2 ≠ .cell) (hkind : scope.kind = .function) (ha : scope.names.lookup a = some .local) (hb : scope.names.lookup b = some .local) (hab : a ≠ b) (hI : s₂.heap.IsListIter I l 0) (hl : s₂.heap.IsList l items) (hlI : l ≠ I)
    (J : Nat → Array Value → Shared → Prop) (V : Nat → Value → Value → Prop)
    (hfr : ∀ i acc s' h' tk, J i acc s' → (∀ b o, b ≠ I → b ≠ D → b ≠ C → s'.heap.get? b = some o → h'.get? b = some o) → J i acc { s' with heap := h', toks := tk })
    (hJl : ∀ i acc s', J i acc s' → s'.heap.IsList l items) (h0 : J 0 #[] s₂)
    (tup : ∀ i v acc s', items[i]? = some v → J i acc s' → ∃ t v1 v2, v = .ref t ∧ t ≠ I ∧ IsTup s'.heap t #[v1, v2] ∧ V i v1 v2)
    (turn : ∀ i v1 v2 acc s₃ oI oD oC E', i < items.size → V i v1 v2 → J i acc s₃ → s₃.heap.get? I = some oI → s₃.heap.get? D = some oD → s₃.heap.get? C = some oC → (∀ h : Heap, h.get? C = some oC → ∃ m, h.Ns C m ∧ m a = some v1 ∧ m b = some v2) →
      wpAny (model prog w) A (eval elt (compEnvC scope cl C env)) (fun y s₅ => J (i + 1) (acc.push y) s₅ ∧ s₅.heap.get? I = some oI ∧ s₅.heap.get? D = some oD ∧ (∃ m, s₅.heap.Ns C m)) E' s₃)
    (hRR : ∀ acc c s', J items.size acc s' → s'.heap.get? D = some (listOf acc c) → (∃ m, s'.heap.Ns C m) → RR (.ref D) C (.ok .next) s') (hsz : items.size ≤ sizeLine) :
    wpAny (model prog w) A (newList []) (fun acc s₃ => wpAny (model prog w) A (newFunctionEnv scope env.globals cl [] env.qual none .none (some env)) (fun cenv s₄ =>
      codeAny (model prog w) A (.compStart (.ListComp elt [⟨.Tuple [.Name a pa, .Name b pb] x1 tp, iter, [], 0⟩] scope pos) 0 (.ref I) acc { cenv with scope := relabel scope env }) (RR acc cenv.locals) s₄) E s₃) E s₂ := by
  refine wpAny_newObj_type (wpAny_newFunctionEnv hcell (by intro y hy; simp at hy) (fun h₁ hns₁ hsb₁ => ?_) hkind)
  dsimp only at hns₁ hsb₁ ⊢
  generalize hH2 : s₂.heap.push { cls := .type "list", dict := none, data := .seq ([] : List Value).toArray } = H2 at hns₁ hsb₁ ⊢
  have hC : H2.objs.size = s₂.heap.objs.size + 1 := by rw [← hH2, Heap.size_push]
  rw [hC, ← hCC] at hns₁ hsb₁ ⊢
  have hDC : D ≠ C := by rw [hDD, hCC]; exact Nat.ne_of_lt (Nat.lt_succ_self _)
  have below : ∀ b, b < s₂.heap.objs.size → b ≠ C ∧ b ≠ D := fun b hb => ⟨by rw [hCC]; exact Nat.ne_of_lt (Nat.lt_succ_of_lt hb), by rw [hDD]; exact Nat.ne_of_lt hb⟩
  have old : ∀ b o, s₂.heap.get? b = some o → h₁.get? b = some o := fun b o e => hsb₁.extBut b o (below b (Heap.lt_size e)).1 (Heap.get?_push_of_some _ (hH2 ▸ Heap.get?_push_of_some _ e))
  have hacc : h₁.get? D = some (listOf #[] 0) := by
    rw [hDD]; exact hsb₁.extBut _ _ (hDD ▸ hDC) (Heap.get?_push_of_some _ (hH2 ▸ Heap.get?_push_size _ rfl))
  have hIlt : I < s₂.heap.objs.size := by obtain ⟨o, e, _⟩ := hI; exact Heap.lt_size e
  have loop : ∀ s₃ : Shared, s₃ = { s₂ with heap := h₁, toks := s₂.toks + ([] : List (Str × Value)).length } →
      codeAny (model prog w) A (.compLoop (.ListComp elt [⟨.Tuple [.Name a pa, .Name b pb] x1 tp, iter, [], 0⟩] scope pos) 0 (.ref I) (.ref D) (compEnvC scope cl C env)) (RR (.ref D) C) s₃ := by
    rintro s₃ rfl
    refine comp_loopP (cenv := compEnvC scope cl C env) hh (lookup_relabel_local ha) (lookup_relabel_local hb) hab (by simp [compEnvC, relabel, hkind]) hDC (below I hIlt).2 (below I hIlt).1 hlI J V hfr hJl (hfr _ _ _ _ _ h0 fun b o _ _ _ e => old b o e) ?_ hacc ⟨_, hns₁⟩ tup turn hRR hsz
    obtain ⟨o, e, r⟩ := hI
    exact ⟨o, old _ _ e, r⟩
  rw [← hDD]
  refine codeAny_compStart_list (loop _ rfl) (wpAny_pyIter_listiter (l := l) (i := 0) ?_ (loop _ rfl))
  obtain ⟨o, e, r⟩ := hI
  exact ⟨o, old _ _ e, r⟩
/-- what a comprehension still has to do, once its source stands -/
def CompStP (prog : Program) (w : World) (A : Around) (E : Value → Shared → Prop) (env : Env) (elt iter : Expr) (a b : Str) (pa pb tp : Pos) (x1 : Nat) (scope : Scope) (cl : List (Str × Addr)) (pos : Pos) (use : Option (Value → Sem Unit)) (Q : Value → Shared → Prop) (xv : Value) (s₁ : Shared) : Prop :=
  wpAny (model prog w) A (pyIter xv) (fun it s₂ => wpAny (model prog w) A (newList []) (fun acc s₃ => wpAny (model prog w) A (newFunctionEnv scope env.globals cl [] env.qual none .none (some env)) (fun cenv s₄ =>
      codeAny (model prog w) A (.compStart (.ListComp elt [⟨.Tuple [.Name a pa, .Name b pb] x1 tp, iter, [], 0⟩] scope pos) 0 it acc { cenv with scope := relabel scope env }) (compPost (model prog w) A E use Q acc cenv.locals) s₄) E s₃) E s₂) E s₁
theorem comp_evalP {elt iter : Expr} {a b : Str} {pa pb tp : Pos} {x1 : Nat} {scope : Scope} {cl : List (Str × Addr)} {pos : Pos} {Q : Value → Shared → Prop} (hclos : closureFor scope env = pure cl) (hkind : scope.kind = .function)
    (hnames : ∀ y ∈ scope.names, y.2 = .local → scope.names.lookup y.1 = some .local) (h : wpAny (model prog w) A (eval iter env) (CompStP prog w A E env elt iter a b pa pb tp x1 scope cl pos none Q) E s)
    (hs : ∀ x, foldedSetIterable iter env x = pure x := by intro _; rfl) : wpAny (model prog w) A (eval (.ListComp elt [⟨.Tuple [.Name a pa, .Name b pb] x1 tp, iter, [], 0⟩] scope pos) env) Q E s := by
  rw [eval_ListComp]
  exact wpAny_comprehension_free (use := none) rfl hs hclos hkind hnames (wpAny_mono h (fun xv s₁ h₁ => h₁) fun _ _ e => e)
theorem comp_atP {elt iter : Expr} {a b : Str} {pa pb tp : Pos} {x1 : Nat} {scope : Scope} {cl : List (Str × Addr)} {pos : Pos} {use : Option (Value → Sem Unit)} {Q : Value → Shared → Prop} {l I D C : Addr} {items : Array Value}
    (hII : I = s.heap.objs.size) (hDD : D = s.heap.objs.size + 1) (hCC : C = s.heap.objs.size + 2) (hh : A.handled = none)
    (hcell : ∀ y ∈ scope.names, y.2 ≠ .cell) (hkind : scope.kind = .function) (ha : scope.names.lookup a = some .local) (hb : scope.names.lookup b = some .local) (hab : a ≠ b) (hl : s.heap.IsList l items)
    (J : Nat → Array Value → Shared → Prop) (V : Nat → Value → Value → Prop)
    (hfr : ∀ i acc s' h' tk, J i acc s' → (∀ b o, b ≠ I → b ≠ D → b ≠ C → s'.heap.get? b = some o → h'.get? b = some o) → J i acc { s' with heap := h', toks := tk })
    (hJl : ∀ i acc s', J i acc s' → s'.heap.IsList l items) (h0 : J 0 #[] s)
    (tup : ∀ i v acc s', items[i]? = some v → J i acc s' → ∃ t v1 v2, v = .ref t ∧ t ≠ I ∧ IsTup s'.heap t #[v1, v2] ∧ V i v1 v2)
    (turn : ∀ i v1 v2 acc s₃ oI oD oC E', i < items.size → V i v1 v2 → J i acc s₃ → s₃.heap.get? I = some oI → s₃.heap.get? D = some oD → s₃.heap.get? C = some oC → (∀ h : Heap, h.get? C = some oC → ∃ m, h.Ns C m ∧ m a = some v1 ∧ m b = some v2) →
      wpAny (model prog w) A (eval elt (compEnvC scope cl C env)) (fun y s₅ => J (i + 1) (acc.push y) s₅ ∧ s₅.heap.get? I = some oI ∧ s₅.heap.get? D = some oD ∧ (∃ m, s₅.heap.Ns C m)) E' s₃)
    (hQ : ∀ acc c s', J items.size acc s' → s'.heap.get? D = some (listOf acc c) → (∃ m, s'.heap.Ns C m) → compPost (model prog w) A E use Q (.ref D) C (.ok .next) s') (hsz : items.size ≤ sizeLine) :
    CompStP prog w A E env elt iter a b pa pb tp x1 scope cl pos use Q (.ref l) s := by
  obtain ⟨ol, hol, _⟩ := id hl
  have hne : l ≠ I := by rw [hII]; exact Nat.ne_of_lt (Heap.lt_size hol)
  refine wpAny_pyIter_list hl ?_
  rw [← hII]
  refine comp_blockP (I := I) (l := l) (D := D) (C := C) (items := items) (by rw [hDD]; simp [Heap.size_push]) (by rw [hCC]; simp [Heap.size_push]) hh hcell hkind ha hb hab ⟨_, by rw [hII]; exact Heap.get?_push_size _ rfl, rfl, rfl⟩ (hl.at fun o e => Heap.get?_push_of_some _ e) hne J V hfr hJl
    (hfr _ _ s _ s.toks h0 fun b o _ _ _ e => Heap.get?_push_of_some _ e) tup turn hQ hsz
end
end Mine
namespace Mine
theorem resetLe : True := by
  k_with_none
  w_top off
  trivial
section
variable {prog : Program} {w : World} {A : Around} {E : Value → Shared → Prop} {s : Shared} {h₀ : Heap} {L l : Addr} {m : Str → Option Value} {news : List (Addr × Obj)} {its : List Value} {c n : Nat} {i : Int} {u : Tok} {value slice : Expr} {Q : Value → Shared → Prop}
/-- an item of a list that is written out -/
theorem subL {v : Value} (F : Fr h₀ L s.heap m) (hl : h₀.get? l = some (listOf (List.toArray its) c)) (h0 : 0 ≤ i) (hi : i < 100) (hv : its[i.toNat]? = some v) (h : Q v s)
    (hs : subscripted slice false (.ref l) (.int i u) = operate [.ref l, .int i u] (getItem (.ref l) (.int i u))) : wpAny (model prog w) A (subscriptTail value slice (.ref l) (.int i u)) Q E s :=
  item_litK (vs := its) ⟨_, F.keep _ _ hl, rfl, _, rfl⟩ h0 (by omega) hv h hs
theorem subSB {T : Nat → Str} (F : Fr h₀ L s.heap m) (hl : h₀.get? l = some (listOf (List.toArray its) c)) (tb : TblS its n T) (h0 : 0 ≤ i) (hi : i.toNat < n) (hn : n ≤ 100) (h : ∀ t, Q (.str (T i.toNat) t) s)
    (hs : subscripted slice false (.ref l) (.int i u) = operate [.ref l, .int i u] (getItem (.ref l) (.int i u))) : wpAny (model prog w) A (subscriptTail value slice (.ref l) (.int i u)) Q E s := by
  obtain ⟨t, ht⟩ := tb.2 _ hi
  exact item_litK (vs := its) ⟨_, F.keep _ _ hl, rfl, _, rfl⟩ h0 (by omega) ht (h t) hs
end
/-- a told pair's name -/
noncomputable def nm (T : Nat → Str) (x : Nat × Nat) : Str := T x.1 ++ Txt.mul (Str.ofString "/") ((x.2 : Nat) : Int)
inductive NamesRes (s : Shared) (T : Nat → Str) (told : List (Nat × Nat)) (r : Result) (s' : Shared) : Prop
  | mk (h : Heap) (tk : Nat) (nd : Addr) (vs : List Value) (c : Nat) (q0 : r = .ok (.ret (.ref nd))) (q1 : s' = { s with heap := h, toks := tk }) (q2 : Kp s.heap h) (q3 : (h.get? nd = some (listOf (List.toArray vs) c) ∧ s.heap.get? nd = none)) (q4 : StrsAre vs (told.map (nm T))) : NamesRes s T told r s'
inductive NmJ (s₀ : Shared) (h₀ : Heap) (L : Addr) (m : Str → Option Value) (news : List (Addr × Obj)) (T : Nat → Str) (told : List (Nat × Nat)) (i : Nat) (acc : Array Value) (s' : Shared) : Prop
  | mk (h : Heap) (tk : Nat) (q0 : s' = { s₀ with heap := h, toks := tk }) (q1 : Fr h₀ L h m) (q2 : News h₀ L h news) (q3 : StrsAre acc.toList ((told.take i).map (nm T))) : NmJ s₀ h₀ L m news T told i acc s'
local macro_rules | `(tactic| walk_at "binaryOp Mult str int") => tm1
local macro_rules | `(tactic| walk_at "binaryOp Add str str") => rulx none `KXadd.add "XXD_" 3 'n' `(tactic| (first | exact ShortT.use (by with_reducible assumption) (by omega) | exact mul_len (by omega)))
local macro_rules | `(tactic| walk_at "eval ListComp") => rul none `comp_evalP "RRD_" 0 'n'
section
variable {w : World} {s : Shared} {mg mb : Str → Option Value} {mean : ExcName → Option Value} {d u : Nat} {gd : Option (List Code)} {outer : List Env} {E : Value → Shared → Prop}
theorem names_any (X : (hd.heap_1 w.params).In s.heap) (T : Top topProg lg mean mg mb s.heap) {tr tx to : Addr} {v1 v2 v3 : Value} {tv its : List Value} {n cR cT cO : Nat} {Tx : Nat → Str} {told : List (Nat × Nat)}
    (hr : s.heap.get? tr = some (listOf (List.toArray [.ref tx, v1, v2, v3]) cR)) (hx : s.heap.get? tx = some (listOf (List.toArray tv) cT)) (hT : TblS tv n Tx) (hsh : ShortT n Tx) (hn : n ≤ 90)
    (ht : s.heap.get? to = some (listOf (List.toArray its) cO)) (tt : Tups s.heap its told) (bd : ∀ x ∈ told, x.1 < n ∧ x.2 ≤ 3) (hk : told.length ≤ 500) (hroom : d ≤ 380) (hu : u ≤ 2000) :
    codeAny (model prog w) ⟨none, d, some outer, gd, u⟩ (.call (.ref 193) ⟨[.ref tr, .ref to], []⟩) (NamesRes s Tx told) s := by
  refine' callC_any X T ?k6 ?k7 (by unfold recursionLimit; show d < 1000; omega) ?k9 ?kB ?kC ?_ ?c2 ?c3 ?c4; (case k6 => k_is); (case k7 => k_is); (case k9 => exact BindsTo.of_eq rfl); (case kB => exact rfl); (case kC => decide); (case c2 => exact rfl); (case c3 => exact rfl); (case c4 => exact rfl)
  intro L' h' tk cells hL F' N' Y X' T'; (try dsimp only)
  k_fold
  k_steps
  obtain ⟨oc, hE, dc⟩ := CellsAre.one Y
  subst hE
  clear Y
  obtain ⟨m0, hm0, F'⟩ : ∃ m0, m0 = _ ∧ Fr s.heap L' h' m0 := ⟨_, rfl, F'⟩
  have hLn : @LT.lt Nat _ L' h'.objs.size := F'.ns.lt
  have hcl : @LT.lt Nat _ (L' + 1) h'.objs.size := Heap.lt_size (N' _ (.head _)).1
  have hIn : ∀ b : Nat, h'.objs.size ≤ b → s.heap.get? b = none := fun b hb => by
    cases z : s.heap.get? b with
    | none => rfl
    | some o => exact absurd (Heap.lt_size (F'.keep _ _ z)) (Nat.not_lt.mpr hb)
  have hlow : ∀ (b : Nat) o, s.heap.get? b = some o → @LT.lt Nat _ b h'.objs.size := fun b o e => Heap.lt_size (F'.keep _ _ e)
  refine comp_atP (I := h'.objs.size) (D := h'.objs.size + 1) (C := h'.objs.size + 2) rfl rfl rfl rfl ?q1 rfl ?q2 ?q3 ?q4 ⟨_, F'.keep _ _ ht, rfl, _, rfl⟩ (NmJ s s.heap L' m0 [(L' + 1, oc)] Tx told) (fun i v1 v2 => ∃ p q t1 t2, told[i]? = some (p, q) ∧ v1 = .int (p : Nat) t1 ∧ v2 = .int (q : Nat) t2) ?fr ?jl ?h0 ?tup ?turn ?done ?sz
  case q1 => decide
  case q2 => decide
  case q3 => decide
  case q4 => decide
  case h0 => exact ⟨_, _, rfl, F', N', .nil⟩
  case sz => rw [sizeLine_eq, List.size_toArray, tt.1]; omega
  case jl =>
    rintro i acc s' ⟨h, tk, rfl, F, N, r⟩
    exact ⟨_, F.keep _ _ ht, rfl, _, rfl⟩
  case tup =>
    rintro i v acc s' hv ⟨h, tk, rfl, F, N, r⟩
    have hv' : its[i]? = some v := by simpa using hv
    have hi : i < told.length := by rw [← tt.1]; exact (List.getElem?_eq_some_iff.mp hv').1
    obtain ⟨⟨p, q⟩, hx⟩ : ∃ x, told[i]? = some x := ⟨_, List.getElem?_eq_getElem hi⟩
    obtain ⟨a, t1, t2, e1, e2⟩ := tt.2 i p q hx
    rw [hv'] at e1
    exact ⟨a, _, _, Option.some.inj e1, Nat.ne_of_lt (hlow _ _ e2), ⟨_, F.keep _ _ e2, rfl, _, rfl⟩, p, q, t1, t2, hx, rfl, rfl⟩
  case fr =>
    rintro i acc s' h2 tk2 ⟨h, tk, rfl, F, N, r⟩ k
    have hk2 : ∀ (b : Nat) o, b < h'.objs.size → h.get? b = some o → h2.get? b = some o := fun b o hb z => k b o (show @Ne Nat b _ from by omega) (show @Ne Nat b _ from by omega) (show @Ne Nat b _ from by omega) z
    refine ⟨h2, tk2, rfl, ⟨?_, fun b o z => hk2 b o (hlow _ _ z) (F.keep _ _ z), F.above⟩, List.forall_mem_cons.mpr ⟨⟨hk2 _ _ hcl (N _ (.head _)).1, (N _ (.head _)).2⟩, List.forall_mem_nil _⟩, r⟩
    obtain ⟨o, es, ep, e1, r⟩ := F.ns
    exact ⟨o, es, ep, hk2 _ _ hLn e1, r⟩
  case turn =>
    rintro i v1 v2 acc s₃ oI oD oC E' hi ⟨p, q, t1, t2, e, rfl, rfl⟩ ⟨h, tk, rfl, F, N, hacc⟩ h1 h2 h3 h4
    obtain ⟨mC, hC, hxa, hxb⟩ := h4 _ h3
    obtain ⟨oL, es, ep, eL, rL⟩ := id F.ns
    have bp := bd _ (List.mem_of_getElem? e)
    have bp1 : ((p : Nat) : Int).toNat < n := by rw [Int.toNat_natCast]; exact bp.1
    have bp2 : q ≤ 3 := bp.2
    have FC : Fr s.heap (h'.objs.size + 2) h mC := ⟨hC, F.keep, Nat.le_trans F.above (show @LE.le Nat _ _ _ from by omega)⟩
    have NC : News s.heap (h'.objs.size + 2) h [(h'.objs.size, oI), (h'.objs.size + 1, oD), (L', oL), (L' + 1, oc)] :=
      List.forall_mem_cons.mpr ⟨⟨h1, show @Ne Nat _ _ from by omega, hIn _ (Nat.le_refl _)⟩, List.forall_mem_cons.mpr ⟨⟨h2, show @Ne Nat _ _ from by omega, hIn _ (by omega)⟩, List.forall_mem_cons.mpr ⟨⟨eL, show @Ne Nat _ _ from by omega, get_above F.above⟩, List.forall_mem_cons.mpr ⟨⟨(N _ (.head _)).1, show @Ne Nat _ _ from by omega, (N _ (.head _)).2.2⟩, List.forall_mem_nil _⟩⟩⟩⟩
    refine as_end ?_
    clear h1 h2 h3 h4 N
    show wpAny _ _ _ _ _ _
    k_fold
    k_steps
    refine' subL (its := [.ref tx, v1, v2, v3]) FC hr ?y1 ?y2 rfl ?_ ?y3
    case y1 => decide
    case y2 => decide
    case y3 => with_unfolding_all rfl
    k_steps
    refine' subSB FC hx hT ?y4 bp1 ?y5 ?_ ?y6
    case y4 => omega
    case y5 => omega
    case y6 => with_unfolding_all rfl
    intro t5
    k_steps
    with_reducible rename Fr _ (h'.objs.size + 2) _ _ => kF5
    with_reducible rename News _ (h'.objs.size + 2) _ _ => kN5
    refine ⟨⟨_, _, rfl, ⟨⟨oL, es, ep, (kN5 _ (.tail _ (.tail _ (.head _)))).1, rL⟩, kF5.keep, F.above⟩, List.forall_mem_cons.mpr ⟨⟨(kN5 _ (.tail _ (.tail _ (.tail _ (.head _))))).1, show @Ne Nat _ _ from by rw [hL]; omega, get_above (show @LE.le Nat _ _ _ from by rw [hL]; omega)⟩, List.forall_mem_nil _⟩, ?_⟩, (kN5 _ (.head _)).1, (kN5 _ (.tail _ (.head _))).1, _, kF5.ns⟩
    rw [List.take_add_one, e, Array.toList_push]
    simp only [Option.toList_some, List.map_append, List.map_cons, List.map_nil]
    simp only [Int.toNat_natCast]
    exact hacc.append' (.cons _ _ .nil)
  case done =>
    rintro acc c s' ⟨h, tk, rfl, F, N, hacc⟩ hD ⟨mC, hm⟩
    refine ⟨mC, hm, fun h2 hs2 => ?_⟩
    have F2 := ksk_fr F hs2 (show @Ne Nat _ _ from by omega) (hIn _ (by omega))
    rw [List.size_toArray, tt.1, List.take_length] at hacc
    show NamesRes _ _ _ _ _
    refine ⟨h2, _, h'.objs.size + 1, acc.toList, c, rfl, rfl, F2.keep, ⟨?_, hIn _ (by omega)⟩, hacc⟩
    rw [Array.toArray_toList]
    exact (hs2.2 _ (show @Ne Nat _ _ from by omega)).trans hD
end
end Mine
namespace Mine
section
variable {prog : Program} {w : World} {A : Around} {R : Result → Shared → Prop} {E : Value → Shared → Prop} {s : Shared}
theorem comp_loopD {elt iter : Expr} {x : Str} {px : Pos} {ifs : List Expr} {scope : Scope} {pos : Pos} {I D l : Addr} {kvs : List (Int × Value)} {ep : Nat} {cenv : Env} (hh : A.handled = none) (hx : cenv.kindOf x = some .local)
    (hp : (cenv.scope.kind == .class || (cenv.scope.kind == .module && cenv.locals != cenv.globals)) = false) (hDC : D ≠ cenv.locals) (hID : I ≠ D) (hIC : I ≠ cenv.locals) (hlI : l ≠ I)
    (J : Nat → Array Value → Shared → Prop)
    (hfr : ∀ i acc s' h' tk, J i acc s' → (∀ b o, b ≠ I → b ≠ D → b ≠ cenv.locals → s'.heap.get? b = some o → h'.get? b = some o) → J i acc { s' with heap := h', toks := tk })
    (hJl : ∀ i acc s', J i acc s' → s'.heap.DictAt (PySem.intKind prog w) l kvs ep) (h0 : J 0 #[] s) (hI : s.heap.IsKeyIter I l 0 kvs.length ep) (hD : s.heap.get? D = some (listOf #[] 0)) (hn : ∃ m, s.heap.Ns cenv.locals m)
    (turn : ∀ i v acc s₃ oI oD oC E', (∃ k x, kvs[i]? = some (k, x) ∧ (PySem.intKind prog w).is k v = true) → J i acc s₃ → s₃.heap.get? I = some oI → s₃.heap.get? D = some oD → s₃.heap.get? cenv.locals = some oC → (∀ h : Heap, h.get? cenv.locals = some oC → ∃ m, h.Ns cenv.locals m ∧ m x = some v) →
      wpAny (model prog w) A (testsOf ifs cenv) (fun ok s₄ => if ok = true then wpAny (model prog w) A (eval elt cenv) (fun y s₅ => J (i + 1) (acc.push y) s₅ ∧ s₅.heap.get? I = some oI ∧ s₅.heap.get? D = some oD ∧ (∃ m, s₅.heap.Ns cenv.locals m)) E' s₄
        else (J (i + 1) acc s₄ ∧ s₄.heap.get? I = some oI ∧ s₄.heap.get? D = some oD ∧ (∃ m, s₄.heap.Ns cenv.locals m))) E' s₃)
    (hR : ∀ acc c s', J kvs.length acc s' → s'.heap.get? D = some (listOf acc c) → (∃ m, s'.heap.Ns cenv.locals m) → R (.ok .next) s') (hsz : kvs.length ≤ sizeLine) :
    codeAny (model prog w) A (.compLoop (.ListComp elt [⟨.Name x px, iter, ifs, 0⟩] scope pos) 0 (.ref I) (.ref D) cenv) R s := by
  have W := Walks.dictKeys (knd := PySem.intKind prog w) hh I l hlI kvs ep
  refine codeAny_compLoop_tests (fun k s' => ∃ i acc c, J i acc s' ∧ s'.heap.IsKeyIter I l i kvs.length ep ∧ s'.heap.get? D = some (listOf acc c) ∧ (∃ m, s'.heap.Ns cenv.locals m) ∧ acc.size ≤ i ∧ i ≤ kvs.length ∧ k = kvs.length + 1 - i) ?_ (kvs.length + 1)
    ⟨0, #[], 0, h0, hI, hD, hn, Nat.le_refl _, Nat.zero_le _, rfl⟩
  rintro k s' ⟨i, acc, c, hJ, hIt, hDa, ⟨m, hns⟩, hac, hi, rfl⟩
  by_cases hlt : i < kvs.length
  · refine W.item i _ _ _ hlt ⟨hIt, hJl _ _ _ hJ⟩ fun v h' tk hv st hk => ?_
    have hk' : ∀ b o, b ≠ I → s'.heap.get? b = some o → h'.get? b = some o := fun b o hb e => hk b o (fun z => hb (List.mem_singleton.mp z)) e
    have hns' : h'.Ns cenv.locals m := by obtain ⟨o, es, ep, e1, r⟩ := hns; exact ⟨o, es, ep, hk' _ _ hIC.symm e1, r⟩
    refine wpAny_assign_Name (wpAny_storeName_local hx hns' (fun h₂ hn₂ hs₂ => ?_) hp)
    obtain ⟨oI, hoI, hI2⟩ := st.1
    obtain ⟨oC, es, ep, hoC, hC2⟩ := hn₂
    have hJ₂ := hfr i acc s' h₂ (tk + 1) hJ fun b o q1 q2 q3 e => hs₂.extBut b o q3 (hk' b o q1 e)
    have hD₂ : h₂.get? D = some (listOf acc c) := hs₂.extBut _ _ hDC (hk' _ _ hID.symm hDa)
    have hI₂ : h₂.get? I = some oI := hs₂.extBut _ _ hIC hoI
    refine wpAny_mono (turn i v acc _ oI _ oC _ hv hJ₂ hI₂ hD₂ hoC (fun h e => ⟨_, ⟨oC, es, ep, e, hC2⟩, if_pos rfl⟩)) (fun ok s₄ h₄ => ?_) fun _ _ z => z
    by_cases hok : ok = true
    · rw [if_pos hok] at h₄ ⊢
      refine wpAny_mono h₄ (fun y s₅ h₅ => ?_) fun _ _ z => z
      obtain ⟨j5, i5, d5, m5, oC5, es5, ep5, c5, hC5⟩ := h₅
      refine append_at (hsz := by omega) d5 fun h₆ hs₆ ho₆ => ?_
      refine ⟨kvs.length + 1 - (i + 1), by omega, i + 1, acc.push y, c + 1, hfr _ _ s₅ h₆ s₅.toks j5 (fun b o q1 q2 q3 e => hs₆.extBut b o q2 e), ⟨oI, hs₆.extBut _ _ hID i5, hI2⟩, ho₆, ⟨m5, oC5, es5, ep5, hs₆.extBut _ _ hDC.symm c5, hC5⟩, ?_, hlt, rfl⟩
      rw [Array.size_push]; omega
    · rw [if_neg hok] at h₄ ⊢
      obtain ⟨j5, i5, d5, c5⟩ := h₄
      exact ⟨kvs.length + 1 - (i + 1), by omega, i + 1, acc, c, j5, ⟨oI, i5, hI2⟩, d5, c5, by omega, hlt, rfl⟩
  · obtain rfl : i = kvs.length := by omega
    refine W.done _ _ _ ⟨hIt, hJl _ _ _ hJ⟩ fun h' tk hk => ?_
    have hk' : ∀ b o, b ≠ I → s'.heap.get? b = some o → h'.get? b = some o := fun b o hb e => hk b o (fun z => hb (List.mem_singleton.mp z)) e
    refine hR acc c _ (hfr _ _ s' h' tk hJ fun b o q1 q2 q3 e => hk' b o q1 e) (hk' _ _ hID.symm hDa) ⟨m, ?_⟩
    obtain ⟨o, es, ep, e1, r⟩ := hns
    exact ⟨o, es, ep, hk' _ _ hIC.symm e1, r⟩
variable {env : Env}
theorem comp_blockD {elt iter : Expr} {x : Str} {px : Pos} {ifs : List Expr} {scope : Scope} {cl : List (Str × Addr)} {pos : Pos} {s₂ : Shared} {I l D C : Addr} {kvs : List (Int × Value)} {ep : Nat} {RR : Value → Addr → Result → Shared → Prop} (hDD : D = s₂.heap.objs.size) (hCC : C = s₂.heap.objs.size + 1) (hh : A.handled = none)
    (hcell : ∀ y ∈ scope.names, y.2 ≠ .cell) (hkind : scope.kind = .function) (hx : scope.names.lookup x = some .local) (hI : s₂.heap.IsKeyIter I l 0 kvs.length ep) (hl : s₂.heap.DictAt (PySem.intKind prog w) l kvs ep) (hlI : l ≠ I)
    (J : Nat → Array Value → Shared → Prop)
    (hfr : ∀ i acc s' h' tk, J i acc s' → (∀ b o, b ≠ I → b ≠ D → b ≠ C → s'.heap.get? b = some o → h'.get? b = some o) → J i acc { s' with heap := h', toks := tk })
    (hJl : ∀ i acc s', J i acc s' → s'.heap.DictAt (PySem.intKind prog w) l kvs ep) (h0 : J 0 #[] s₂)
    (turn : ∀ i v acc s₃ oI oD oC E', (∃ k x, kvs[i]? = some (k, x) ∧ (PySem.intKind prog w).is k v = true) → J i acc s₃ → s₃.heap.get? I = some oI → s₃.heap.get? D = some oD → s₃.heap.get? C = some oC → (∀ h : Heap, h.get? C = some oC → ∃ m, h.Ns C m ∧ m x = some v) →
      wpAny (model prog w) A (testsOf ifs (compEnvC scope cl C env)) (fun ok s₄ => if ok = true then wpAny (model prog w) A (eval elt (compEnvC scope cl C env)) (fun y s₅ => J (i + 1) (acc.push y) s₅ ∧ s₅.heap.get? I = some oI ∧ s₅.heap.get? D = some oD ∧ (∃ m, s₅.heap.Ns C m)) E' s₄
        else (J (i + 1) acc s₄ ∧ s₄.heap.get? I = some oI ∧ s₄.heap.get? D = some oD ∧ (∃ m, s₄.heap.Ns C m))) E' s₃)
    (hRR : ∀ acc c s', J kvs.length acc s' → s'.heap.get? D = some (listOf acc c) → (∃ m, s'.heap.Ns C m) → RR (.ref D) C (.ok .next) s') (hsz : kvs.length ≤ sizeLine) :
    wpAny (model prog w) A (newList []) (fun acc s₃ => wpAny (model prog w) A (newFunctionEnv scope env.globals cl [] env.qual none .none (some env)) (fun cenv s₄ =>
      codeAny (model prog w) A (.compStart (.ListComp elt [⟨.Name x px, iter, ifs, 0⟩] scope pos) 0 (.ref I) acc { cenv with scope := relabel scope env }) (RR acc cenv.locals) s₄) E s₃) E s₂ := by
  refine wpAny_newObj_type (wpAny_newFunctionEnv hcell (by intro y hy; simp at hy) (fun h₁ hns₁ hsb₁ => ?_) hkind)
  dsimp only at hns₁ hsb₁ ⊢
  generalize hH2 : s₂.heap.push { cls := .type "list", dict := none, data := .seq ([] : List Value).toArray } = H2 at hns₁ hsb₁ ⊢
  have hC : H2.objs.size = s₂.heap.objs.size + 1 := by rw [← hH2, Heap.size_push]
  rw [hC, ← hCC] at hns₁ hsb₁ ⊢
  have hDC : D ≠ C := by rw [hDD, hCC]; exact Nat.ne_of_lt (Nat.lt_succ_self _)
  have below : ∀ b, b < s₂.heap.objs.size → b ≠ C ∧ b ≠ D := fun b hb => ⟨by rw [hCC]; exact Nat.ne_of_lt (Nat.lt_succ_of_lt hb), by rw [hDD]; exact Nat.ne_of_lt hb⟩
  have old : ∀ b o, s₂.heap.get? b = some o → h₁.get? b = some o := fun b o e => hsb₁.extBut b o (below b (Heap.lt_size e)).1 (Heap.get?_push_of_some _ (hH2 ▸ Heap.get?_push_of_some _ e))
  have hacc : h₁.get? D = some (listOf #[] 0) := by
    rw [hDD]; exact hsb₁.extBut _ _ (hDD ▸ hDC) (Heap.get?_push_of_some _ (hH2 ▸ Heap.get?_push_size _ rfl))
  have hIlt : I < s₂.heap.objs.size := by obtain ⟨o, e, _⟩ := hI; exact Heap.lt_size e
  have loop : ∀ s₃ : Shared, s₃ = { s₂ with heap := h₁, toks := s₂.toks + ([] : List (Str × Value)).length } →
      codeAny (model prog w) A (.compLoop (.ListComp elt [⟨.Name x px, iter, ifs, 0⟩] scope pos) 0 (.ref I) (.ref D) (compEnvC scope cl C env)) (RR (.ref D) C) s₃ := by
    rintro s₃ rfl
    refine comp_loopD (cenv := compEnvC scope cl C env) hh (lookup_relabel_local hx) (by simp [compEnvC, relabel, hkind]) hDC (below I hIlt).2 (below I hIlt).1 hlI J hfr hJl (hfr _ _ _ _ _ h0 fun b o _ _ _ e => old b o e) ?_ hacc ⟨_, hns₁⟩ turn hRR hsz
    obtain ⟨o, e, r⟩ := hI
    exact ⟨o, old _ _ e, r⟩
  rw [← hDD]
  refine codeAny_compStart_list (loop _ rfl) (wpAny_pyIter_keyiter (d := l) (i := 0) (n := kvs.length) (ep := ep) ?_ (loop _ rfl))
  obtain ⟨o, e, r⟩ := hI
  exact ⟨o, old _ _ e, r⟩
theorem comp_atD {elt iter : Expr} {x : Str} {px : Pos} {ifs : List Expr} {scope : Scope} {cl : List (Str × Addr)} {pos : Pos} {use : Option (Value → Sem Unit)} {Q : Value → Shared → Prop} {l I D C : Addr} {kvs : List (Int × Value)} {ep : Nat}
    (hII : I = s.heap.objs.size) (hDD : D = s.heap.objs.size + 1) (hCC : C = s.heap.objs.size + 2) (hh : A.handled = none)
    (hcell : ∀ y ∈ scope.names, y.2 ≠ .cell) (hkind : scope.kind = .function) (hx : scope.names.lookup x = some .local) (lo : (l == sysModules) = false) (hl : s.heap.DictAt (PySem.intKind prog w) l kvs ep)
    (J : Nat → Array Value → Shared → Prop)
    (hfr : ∀ i acc s' h' tk, J i acc s' → (∀ b o, b ≠ I → b ≠ D → b ≠ C → s'.heap.get? b = some o → h'.get? b = some o) → J i acc { s' with heap := h', toks := tk })
    (hJl : ∀ i acc s', J i acc s' → s'.heap.DictAt (PySem.intKind prog w) l kvs ep) (h0 : J 0 #[] s)
    (turn : ∀ i v acc s₃ oI oD oC E', (∃ k x, kvs[i]? = some (k, x) ∧ (PySem.intKind prog w).is k v = true) → J i acc s₃ → s₃.heap.get? I = some oI → s₃.heap.get? D = some oD → s₃.heap.get? C = some oC → (∀ h : Heap, h.get? C = some oC → ∃ m, h.Ns C m ∧ m x = some v) →
      wpAny (model prog w) A (testsOf ifs (compEnvC scope cl C env)) (fun ok s₄ => if ok = true then wpAny (model prog w) A (eval elt (compEnvC scope cl C env)) (fun y s₅ => J (i + 1) (acc.push y) s₅ ∧ s₅.heap.get? I = some oI ∧ s₅.heap.get? D = some oD ∧ (∃ m, s₅.heap.Ns C m)) E' s₄
        else (J (i + 1) acc s₄ ∧ s₄.heap.get? I = some oI ∧ s₄.heap.get? D = some oD ∧ (∃ m, s₄.heap.Ns C m))) E' s₃)
    (hQ : ∀ acc c s', J kvs.length acc s' → s'.heap.get? D = some (listOf acc c) → (∃ m, s'.heap.Ns C m) → compPost (model prog w) A E use Q (.ref D) C (.ok .next) s') (hsz : kvs.length ≤ sizeLine) :
    CompSt prog w A E env elt iter x px ifs scope cl pos use Q (.ref l) s := by
  obtain ⟨ol, esl, hol, _⟩ := id hl
  have hne : l ≠ I := by rw [hII]; exact Nat.ne_of_lt (Heap.lt_size hol)
  refine wpAny_pyIter_dict lo hl ?_
  rw [← hII]
  refine comp_blockD (I := I) (l := l) (D := D) (C := C) (kvs := kvs) (ep := ep) (by rw [hDD]; simp [Heap.size_push]) (by rw [hCC]; simp [Heap.size_push]) hh hcell hkind hx ⟨_, by rw [hII]; exact Heap.get?_push_size _ rfl, rfl, rfl⟩ (hl.at' fun o e => Heap.get?_push_of_some _ e) hne J hfr hJl
    (hfr _ _ s _ s.toks h0 fun b o _ _ _ e => Heap.get?_push_of_some _ e) turn hQ hsz
/-- a pair among the told ones -/
theorem notinTold {h₀ : Heap} {L l t : Addr} {m : Str → Option Value} {its : List Value} {told : List (Nat × Nat)} {c p q : Nat} {t1 t2 : Tok} {Q : Value → Shared → Prop} (F : Fr h₀ L s.heap m) (hl : h₀.get? l = some (listOf (List.toArray its) c)) (tt : Tups h₀ its told)
    (ht : s.heap.get? t = some (pairO p q t1 t2)) (h0 : h₀.get? t = none) (hu : A.units ≤ 3000) (h : Q (.bool (!decide ((p, q) ∈ told))) s) : wpAny (model prog w) A (compareOp .NotIn (.ref t) (.ref l)) Q E s := by
  classical
  have key : ∀ y ∈ its, ∃ a p' q' t1' t2', y = .ref a ∧ (p', q') ∈ told ∧ h₀.get? a = some (pairO p' q' t1' t2') := by
    intro y hy
    obtain ⟨i, hi, rfl⟩ := List.getElem_of_mem hy
    obtain ⟨⟨p', q'⟩, hx⟩ : ∃ x, told[i]? = some x := ⟨_, List.getElem?_eq_getElem (by rw [← tt.1]; exact hi)⟩
    obtain ⟨a, t1', t2', e1, e2⟩ := tt.2 i p' q' hx
    rw [List.getElem?_eq_getElem hi] at e1
    exact ⟨a, p', q', t1', t2', Option.some.inj e1, List.mem_of_getElem? hx, e2⟩
  refine SeqAt.notIn_listAt (items := List.toArray its) (fun y => decide (∃ a t1' t2', y = .ref a ∧ h₀.get? a = some (pairO p q t1' t2'))) ⟨_, F.keep _ _ hl, rfl, _, rfl⟩ ?_ ?_
  · intro y hy
    obtain ⟨a, p', q', t1', t2', rfl, hm, ha⟩ := key y (by simpa using hy)
    have hat : a ≠ t := fun z => by rw [z, h0] at ha; cases ha
    have hs := F.keep _ _ ha
    refine SeqAt.EqAt.of_refs hat ?_
    have r := SeqAt.RcAt.tuples (A := A.in1) (s := s) (l := a) (b := t) (items := #[.int (p' : Nat) t1', .int (q' : Nat) t2']) (items2 := #[.int (p : Nat) t1, .int (q : Nat) t2]) (e := fun j => if j = 0 then ((p' : Int) == (p : Int)) else ((q' : Int) == (q : Int))) ⟨_, hs, rfl, _, rfl⟩ ⟨_, ht, rfl, _, rfl⟩ (by have : A.in1.units ≤ A.units + 100 := (by simp [Around.in1]); unfold cLine; omega) (by
      intro j h1 h2
      match j with
      | 0 => exact (MeetsSeq.EqGives.int _ _ _ _).at _ _
      | 1 => exact (MeetsSeq.EqGives.int _ _ _ _).at _ _
      | j + 2 => exact absurd h1 (by simp))
    have e : ((List.range (min (#[Value.int (p' : Nat) t1', .int (q' : Nat) t2'] : Array Value).size (#[Value.int (p : Nat) t1, .int (q : Nat) t2] : Array Value).size)).all (fun j => if j = 0 then ((p' : Int) == (p : Int)) else ((q' : Int) == (q : Int))) && (#[Value.int (p' : Nat) t1', .int (q' : Nat) t2'] : Array Value).size == (#[Value.int (p : Nat) t1, .int (q : Nat) t2] : Array Value).size) = decide (∃ a' t1' t2', Value.ref a = .ref a' ∧ h₀.get? a' = some (pairO p q t1' t2')) := by
      by_cases z : p' = p ∧ q' = q
      · obtain ⟨rfl, rfl⟩ := z
        rw [decide_eq_true ⟨a, t1', t2', rfl, ha⟩]
        simp [List.range_succ]
      · rw [decide_eq_false (fun ⟨a', t1'', t2'', e1, e2⟩ => z (by
          cases e1
          rw [ha] at e2
          simp only [Option.some.injEq, Obj.mk.injEq, Data.seq.injEq] at e2
          have := e2.2.2.1.1
          simp at this
          omega))]
        rcases Classical.not_and_iff_not_or_not.mp z with z | z
        · have : ((p' : Int) == (p : Int)) = false := beq_eq_false_iff_ne.mpr (by omega)
          simp [List.range_succ, this]
        · have : ((q' : Int) == (q : Int)) = false := beq_eq_false_iff_ne.mpr (by omega)
          simp [List.range_succ, this]
    exact e ▸ r
  · have e : (List.toArray its).any (fun y => decide (∃ a t1' t2', y = .ref a ∧ h₀.get? a = some (pairO p q t1' t2'))) = decide ((p, q) ∈ told) := by
      rw [List.any_toArray]
      by_cases z : (p, q) ∈ told
      · rw [decide_eq_true z]
        obtain ⟨i, hi, hx⟩ := List.getElem_of_mem z
        obtain ⟨a, t1', t2', e1, e2⟩ := tt.2 i p q (by rw [List.getElem?_eq_getElem hi, hx])
        exact List.any_eq_true.mpr ⟨_, List.mem_of_getElem? e1, decide_eq_true ⟨a, t1', t2', rfl, e2⟩⟩
      · rw [decide_eq_false z]
        refine List.any_eq_false.mpr fun y hy hd => ?_
        obtain ⟨a, t1', t2', rfl, e2⟩ := of_decide_eq_true hd
        obtain ⟨a', p', q', t1'', t2'', e1, hm, e3⟩ := key _ hy
        cases e1
        rw [e2] at e3
        simp only [Option.some.injEq, Obj.mk.injEq, Data.seq.injEq] at e3
        have := e3.2.2.1.1
        simp at this
        refine z ?_
        have hp : p = p' := by omega
        have hq : q = q' := by omega
        rw [hp, hq]; exact hm
    rw [e]; exact h
end
end Mine
namespace Mine
section
variable {prog : Program} {w : World} {A : Around} {E : Value → Shared → Prop} {s : Shared} {env : Env}
/-- a list comprehension of one clause over a dict of numbers -/
theorem comp_coreD {use : Option (Value → Sem Unit)} {elt iter : Expr} {x : Str} {px : Pos} {ifs : List Expr} {scope : Scope} {cl : List (Str × Addr)} {pos : Pos} {Q : Value → Shared → Prop} {l I D C : Addr} {oD₀ : Obj} {kvs : List (Int × Value)} {ep : Nat} {h₀ : Heap} {L : Addr} {m : Str → Option Value} {news : List (Addr × Obj)}
    (hII : I = s.heap.objs.size) (hDD : D = s.heap.objs.size + 1) (hCC : C = s.heap.objs.size + 2) (hh : A.handled = none)
    (hcell : ∀ y ∈ scope.names, y.2 ≠ .cell) (hkind : scope.kind = .function) (hx : scope.names.lookup x = some .local)
    (F : Fr h₀ L s.heap m) (N : News h₀ L s.heap news) (J : Nat → List Value → List (Addr × Obj) → Array GenState → Prop) (h0 : J 0 [] news s.gens)
    (lo : (l == sysModules) = false) (ho : ∀ h : Heap, h.get? l = some oD₀ → h.DictAt (PySem.intKind prog w) l kvs ep) (hl : ∀ i acc news' g, J i acc news' g → (l, oD₀) ∈ news')
    (turn : ∀ i v acc news₁ h₁ tk₁ g₁ oI oD oL mC E', (∃ k x, kvs[i]? = some (k, x) ∧ (PySem.intKind prog w).is k v = true) → J i acc news₁ g₁ → CTurn s h₀ L I D C m x v news₁ h₁ oI oD oL mC →
      wpAny (model prog w) A (testsOf ifs (compEnvC scope cl C env)) (fun ok s₄ => if ok = true then wpAny (model prog w) A (eval elt (compEnvC scope cl C env)) (fun y s₅ => CPost s h₀ L I D C m oI oD (J (i + 1) (acc ++ [y])) s₅) E' s₄
        else CPost s h₀ L I D C m oI oD (J (i + 1) acc) s₄) E' { s with heap := h₁, toks := tk₁, gens := g₁ })
    (hQ : ∀ acc c h' tk g news' mC, J kvs.length acc news' g → Fr h₀ L h' m → News h₀ L h' ((D, listOf acc.toArray c) :: news') → (∀ q ∈ news', q.1 ≠ D ∧ q.1 ≠ C) → (@LT.lt Nat _ L D ∧ @LT.lt Nat _ D C) → h₀.get? C = none → h'.Ns C mC → compPost (model prog w) A E use Q (.ref D) C (.ok .next) { s with heap := h', toks := tk, gens := g }) (hsz : kvs.length ≤ sizeLine) :
    CompSt prog w A E env elt iter x px ifs scope cl pos use Q (.ref l) s := by
  have hLI : @LT.lt Nat _ L I := by rw [hII]; exact F.ns.lt
  have hID : @LT.lt Nat _ I D := by rw [hII, hDD]; exact Nat.lt_succ_self _
  have hDC : @LT.lt Nat _ D C := by rw [hDD, hCC]; exact Nat.lt_succ_self _
  have hs : @LE.le Nat _ h₀.objs.size I := Nat.le_trans F.above (Nat.le_of_lt hLI)
  have qI : h₀.get? I = none := get_above hs
  have qD : h₀.get? D = none := get_above (show @LE.le Nat _ _ _ from by omega)
  have qC : h₀.get? C = none := get_above (show @LE.le Nat _ _ _ from by omega)
  have ql : L ≠ I ∧ L ≠ D ∧ L ≠ C := ⟨show @Ne Nat _ _ from by omega, show @Ne Nat _ _ from by omega, show @Ne Nat _ _ from by omega⟩
  have j0 : CJ s h₀ L I D C m J 0 #[] s := ⟨_, _, _, news, rfl, F, N, h0, fun q hq => by
    have : @LT.lt Nat _ q.1 I := by rw [hII]; exact Heap.lt_size (N q hq).1
    exact ⟨show @Ne Nat _ _ from by omega, show @Ne Nat _ _ from by omega, show @Ne Nat _ _ from by omega⟩⟩
  have jl : ∀ i acc s', CJ s h₀ L I D C m J i acc s' → s'.heap.DictAt (PySem.intKind prog w) l kvs ep := by
    rintro i acc s' ⟨h, tk, g, news', rfl, F', N', j, ne⟩
    exact ho _ (N' _ (hl _ _ _ _ j)).1
  refine comp_atD (I := I) (D := D) (C := C) hII hDD hCC hh hcell hkind hx lo (jl _ _ _ j0) (CJ s h₀ L I D C m J) ?fr jl j0 ?turn ?done hsz
  case fr => exact fun i acc s' h' tk x k => x.frame ql qI qD qC k
  case turn =>
    intro i v acc s₃ oI oD oC E' hv j h1 h2 h3 h4
    obtain ⟨h, tk, g, news', oL, mC, rfl, j, T⟩ := j.turn ⟨hLI, hID, hDC⟩ hs h1 h2 h3 h4
    refine wpAny_mono (turn i v _ _ _ _ _ _ _ _ _ E' hv j T) (fun ok s₄ h₄ => ?_) fun _ _ z => z
    by_cases hok : ok = true
    · rw [if_pos hok] at h₄ ⊢
      exact wpAny_mono h₄ (fun y s₅ h₅ => CPost.cj F.above (by rw [Array.toList_push]; exact h₅)) fun _ _ z => z
    · rw [if_neg hok] at h₄ ⊢
      exact CPost.cj F.above h₄
  case done =>
    rintro acc c s' ⟨h, tk, g, news', rfl, F', N', j, ne⟩ hD ⟨mC, hm⟩
    refine hQ acc.toList c h tk g news' mC j F' ?_ (fun q hq => (ne q hq).2) ⟨show @LT.lt Nat _ _ _ from by omega, hDC⟩ qC hm
    rw [Array.toArray_toList]
    exact List.forall_mem_cons.mpr ⟨⟨hD, ql.2.1.symm, qD⟩, N'⟩
/-- a list comprehension of one clause over a dict of numbers -/
theorem comp_storeD {y : Str} {py : Pos} {elt iter : Expr} {x : Str} {px : Pos} {ifs : List Expr} {scope : Scope} {cl : List (Str × Addr)} {pos : Pos} {Q : Value → Shared → Prop} {l I D C : Addr} {oD₀ : Obj} {kvs : List (Int × Value)} {ep : Nat} {h₀ : Heap} {L : Addr} {m : Str → Option Value} {news : List (Addr × Obj)}
    (hII : I = s.heap.objs.size) (hDD : D = s.heap.objs.size + 1) (hCC : C = s.heap.objs.size + 2) (hh : A.handled = none) (hLe : env.locals = L) (hy : env.kindOf y = some .local) (hp : (env.scope.kind == .class || (env.scope.kind == .module && env.locals != env.globals)) = false)
    (hcell : ∀ y ∈ scope.names, y.2 ≠ .cell) (hkind : scope.kind = .function) (hx : scope.names.lookup x = some .local)
    (F : Fr h₀ L s.heap m) (N : News h₀ L s.heap news) (J : Nat → List Value → List (Addr × Obj) → Array GenState → Prop) (h0 : J 0 [] news s.gens)
    (lo : (l == sysModules) = false) (ho : ∀ h : Heap, h.get? l = some oD₀ → h.DictAt (PySem.intKind prog w) l kvs ep) (hl : ∀ i acc news' g, J i acc news' g → (l, oD₀) ∈ news')
    (turn : ∀ i v acc news₁ h₁ tk₁ g₁ oI oD oL mC E', (∃ k x, kvs[i]? = some (k, x) ∧ (PySem.intKind prog w).is k v = true) → J i acc news₁ g₁ → CTurn s h₀ L I D C m x v news₁ h₁ oI oD oL mC →
      wpAny (model prog w) A (testsOf ifs (compEnvC scope cl C env)) (fun ok s₄ => if ok = true then wpAny (model prog w) A (eval elt (compEnvC scope cl C env)) (fun y s₅ => CPost s h₀ L I D C m oI oD (J (i + 1) (acc ++ [y])) s₅) E' s₄
        else CPost s h₀ L I D C m oI oD (J (i + 1) acc) s₄) E' { s with heap := h₁, toks := tk₁, gens := g₁ })
    (hQ : ∀ acc c h' tk g news', J kvs.length acc news' g → Fr h₀ L h' (fun z => if z = y then some (.ref D) else m z) → News h₀ L h' ((D, listOf acc.toArray c) :: news') → (∀ q ∈ news', q.1 ≠ D) → @LT.lt Nat _ L D → Q .none { s with heap := h', toks := tk, gens := g }) (hsz : kvs.length ≤ sizeLine) :
    CompSt prog w A E env elt iter x px ifs scope cl pos (some (assign (.Name y py) env)) Q (.ref l) s := by
  subst hLe
  refine comp_coreD hII hDD hCC hh hcell hkind hx F N J h0 lo ho hl turn ?_ hsz
  intro acc c h' tk g news' mC j F' N' ne lt qC hm
  have hCL : C ≠ env.locals := show @Ne Nat _ _ from by omega
  show wpAny _ A (assign (.Name y py) env (.ref D)) _ _ _
  refine wpAny_assign_Name (wpAny_storeName_local hy F'.ns (fun h₂ hn₂ hs₂ => ?_) hp)
  have F2 : Fr h₀ env.locals h₂ (fun z => if z = y then some (.ref D) else m z) := F'.set hn₂ hs₂
  have N2 : News h₀ env.locals h₂ ((D, listOf acc.toArray c) :: news') := fun q hq => ⟨hs₂.extBut _ _ (N' q hq).2.1 (N' q hq).1, (N' q hq).2⟩
  refine ⟨mC, hm.sameBut hs₂ hCL, fun h₃ hs₃ => ?_⟩
  refine hQ acc c h₃ _ g news' j (ksk_fr F2 hs₃ hCL qC) ?_ (fun q hq => (ne q hq).1) lt.1
  exact ksk_news N2 hs₃ (List.forall_mem_cons.mpr ⟨show @Ne Nat _ _ from by omega, fun q hq => (ne q hq).2⟩)
end
end Mine
namespace Mine
noncomputable abbrev keyO (a b : Int) (t1 t2 : Tok) : Obj := { cls := .type "tuple", data := .seq #[.int a t1, .int b t2] }
section
variable {prog : Program} {w : World} {A : Around} {E : Value → Shared → Prop} {s : Shared}
theorem key_lt {x y : Addr} {a b a' b' : Int} {t1 t2 t3 t4 : Tok} {Q : Bool → Shared → Prop} (hx : s.heap.get? x = some (keyO a b t1 t2)) (hy : s.heap.get? y = some (keyO a' b' t3 t4)) (hgt : a' < a ∨ (a' = a ∧ b' < b)) (h : Q false s) :
    wpAny (model prog w) A (keyLt' (tuples' true) (.ref x) (.ref y)) Q E s := by
  refine kat_lt hx rfl hy rfl ?_
  show KatLex prog w A true _ Q [(.int a t1, .int a' t3), (.int b t2, .int b' t4)] 0 s
  refine kat_cons (wpAny_eqBool_int ?_)
  by_cases e : a = a'
  · have e1 : (a == a') = true := by simpa using e
    rw [e1]
    refine kat_yes (kat_cons (wpAny_eqBool_int ?_))
    have e2 : (b == b') = false := beq_eq_false_iff_ne.mpr (by omega)
    rw [e2]
    refine kat_no ?_
    show wpAny _ _ (oneLt' false _ _) _ _ _
    refine kat_one _ _ (lt_int ?_)
    show Q (decide (b < b')) s
    rw [decide_eq_false (by omega)]
    exact h
  · have e1 : (a == a') = false := beq_eq_false_iff_ne.mpr e
    rw [e1]
    refine kat_no ?_
    show wpAny _ _ (oneLt' true _ _) _ _ _
    refine oneLt_int ?_
    rw [decide_eq_false (by omega)]
    exact h
/-- the run of an ascending list -/
theorem wpS_ascT {st : SortSt} {n : Nat} {Q : AscSt → SortSt → Prop} (h1 : 1 ≤ n) (hlt : ∀ i, 1 ≤ i → i < n → ∀ Q : Option Bool → SortSt → Prop, Q (some false) st → wpS (model prog w) A E s (ltAt' i (i - 1)) Q st) (h : Q (none, n) st) : wpS (model prog w) A E s (ascLoop 1 n) Q st := by
  unfold ascLoop
  refine wpS_forRange (I := fun x c st' => st' = st ∧ c = (none, x)) ?step ?fin ⟨rfl, rfl⟩
  case fin =>
    rintro c st' ⟨rfl, rfl⟩
    rw [show max 1 n = n by omega]
    exact h
  case step =>
    rintro x c st' hax hxn ⟨rfl, rfl⟩
    dsimp only
    refine wpS_bind (hlt x hax hxn _ ?_)
    exact wpS_pure ⟨rfl, rfl⟩
theorem wpS_sortT {st : SortSt} {n : Nat} {Q : Unit → SortSt → Prop} (hn : (arrOf st).size = n) (h2 : 2 ≤ n) (h64 : n < 64) (hp : pendingOf st = #[]) (hlt : ∀ i, 1 ≤ i → i < n → ∀ Q : Option Bool → SortSt → Prop, Q (some false) st → wpS (model prog w) A E s (ltAt' i (i - 1)) Q st)
    (h : ∀ st', arrOf st' = arrOf st → failedOf st' = failedOf st → Q () st') : wpS (model prog w) A E s sortRuns' Q st := by
  rw [sortRuns'_eq]
  refine wpS_bind (wpS_get ?_)
  dsimp only
  have hmr : minRun' n n 0 = n := by
    obtain ⟨f, hf⟩ : ∃ f, n = f + 1 := ⟨n - 1, by omega⟩
    have : minRun' (f + 1) n 0 = n := by rw [minRun'_succ, if_pos h64]; rfl
    rwa [← hf] at this
  simp only [hn, hmr]
  refine wpS_bind (wpS_mono (wpS_forRange
    (I := fun x c st' => (x = 0 ∧ c = (none, 0) ∧ st' = st) ∨ (1 ≤ x ∧ c = (none, n) ∧ st' = setPending st (#[(0, n, 0)])))
    (Q := fun c st' => c = (none, n) ∧ st' = setPending st (#[(0, n, 0)])) ?step ?fin (.inl ⟨rfl, rfl, rfl⟩)) ?post)
  case fin =>
    rintro c st' (⟨hx, _, _⟩ | ⟨_, hc, hD⟩)
    · omega
    · exact ⟨hc, hD⟩
  case step =>
    rintro x c st' _ hx (⟨rfl, rfl, rfl⟩ | ⟨hx1, rfl, rfl⟩)
    · dsimp only
      rw [if_neg (by omega)]
      simp only [Nat.sub_zero, Nat.min_self, Nat.zero_add]
      rw [countRun0_eq]
      refine wpS_bind (wpS_bind (wpS_ascT (by omega) hlt ?_))
      dsimp only
      rw [if_pos (by simp)]
      refine wpS_pure ?_
      dsimp only
      rw [if_neg (by omega)]
      refine wpS_bind (wpS_get ?_)
      rw [hp]
      (try dsimp only)
      exact wpS_bind (wpS_modify (wpS_pure (.inr ⟨by omega, rfl, by rw [hp]; rfl⟩)))
    · dsimp only
      rw [if_pos (Nat.le_refl _)]
      exact wpS_pure ⟨rfl, rfl⟩
  case post =>
    rintro c st' ⟨rfl, rfl⟩
    dsimp only
    refine wpS_bind (wpS_mono (wpS_forRange (I := fun _ c st'' => st'' = setPending st (#[(0, n, 0)]) ∧ c = (none, ())) (Q := fun c st'' => st'' = setPending st (#[(0, n, 0)]) ∧ c = (none, ())) ?_ (fun _ _ hh => hh) ⟨rfl, rfl⟩) ?_)
    · rintro x c st'' _ _ ⟨rfl, rfl⟩
      refine wpS_bind (wpS_get ?_)
      rw [if_pos (by show (1 : Nat) ≤ 1; exact Nat.le_refl 1)]
      exact wpS_pure ⟨rfl, rfl⟩
    · rintro c st'' ⟨rfl, rfl⟩
      exact wpS_pure (h _ rfl rfl)
end
end Mine
namespace Mine
theorem resetLj : True := by
  k_with_none
  w_top off
  trivial
noncomputable def KeysAt (h : Heap) (kv : List Value) (kz : List (Int × Int)) : Prop := kv.length = kz.length ∧ ∀ (i : Nat) (a b : Int), kz[i]? = some (a, b) → ∃ t t1 t2, kv[i]? = some (Value.ref t) ∧ h.get? t = some (keyO a b t1 t2)
noncomputable def Asc (kz : List (Int × Int)) : Prop := ∀ (i : Nat) (a b a' b' : Int), kz[i]? = some (a', b') → kz[i + 1]? = some (a, b) → a' < a ∨ (a' = a ∧ b' < b)
section
variable {prog : Program} {w : World} {A : Around} {E : Value → Shared → Prop} {s : Shared} {h₀ : Heap} {L : Addr} {m : Str → Option Value} {news : List (Addr × Obj)} {a kS : Addr} {vs : List Value} {kz : List (Int × Int)} {keys : Array Value} {e e1 : Nat} {P : PySem.Fin → Shared → Prop}
theorem srt_tail {st : SortSt} (F : Fr h₀ L s.heap m) (N : News h₀ L s.heap (news ++ [(kS, seqObj "list" keys e), (a, seqObj "list" #[] e1)])) (hka : kS ≠ a) (hnk : ∀ p ∈ news, p.1 ≠ kS) (hna : ∀ p ∈ news, p.1 ≠ a)
    (hsz : keys.size = vs.length) (h64 : vs.length < 64) (hst : arrOf st = keys.zip vs.toArray) (hfl : failedOf st = none)
    (h : ∀ h' tk c, Fr h₀ L h' m → News h₀ L h' ((a, seqObj "list" vs.toArray c) :: news) → P (.done (.ret .none)) { s with heap := h', toks := tk }) :
    wpAny (model prog w) A (ksk_tail a false e1 (.ref kS) st) P E s := by
  have nk := N (kS, seqObj "list" keys e) (List.mem_append_right _ (.head _))
  have na := N (a, seqObj "list" #[] e1) (List.mem_append_right _ (.tail _ (.head _)))
  have Nn : News h₀ L s.heap news := fun p hp => N p (List.mem_append_left _ hp)
  have hout : (arrOf st).map (·.2) = vs.toArray := by
    rw [hst]
    apply Array.toList_inj.mp
    rw [Array.toList_map, ksk_zip, List.map_snd_zip (by simp; omega)]
  have s1 := Heap.SameBut.update s.heap kS (Obj.mapSeq fun _ => (#[] : Array Value))
  have na1 : (s.heap.update kS (Obj.mapSeq fun _ => (#[] : Array Value))).get? a = some (seqObj "list" #[] e1) := (s1.2 a hka.symm).trans na.1
  have s2 := Heap.SameBut.update (s.heap.update kS (Obj.mapSeq fun _ => (#[] : Array Value))) a (Obj.mapSeq fun _ => vs.toArray)
  obtain ⟨c2, hc2⟩ : ∃ c2, ((s.heap.update kS (Obj.mapSeq fun _ => (#[] : Array Value))).update a (Obj.mapSeq fun _ => vs.toArray)).get? a = some (seqObj "list" vs.toArray c2) := ⟨_, get?_update_seq na1 fun _ => vs.toArray⟩
  have N2 := ksk_news (ksk_news Nn s1 hnk) s2 hna
  unfold ksk_tail
  try dsimp only
  rw [hout]
  refine wpAny_bind (listUpdate_at nk.1 rfl ?_ (by rw [hsz, sizeLine_eq]; omega) (Nat.zero_le _))
  refine wpAny_bind (wpAny_letGo ?_)
  refine wpAny_bind (seqEpoch_at na1 rfl ?_)
  refine wpAny_bind (listUpdate_at na1 rfl ?_ (Nat.zero_le _) (by show vs.toArray.size ≤ _; rw [List.size_toArray, sizeLine_eq]; omega))
  rw [hfl]
  simp only [bne_self_eq_false, Bool.false_eq_true, if_false]
  refine wpAny_pure (h _ _ c2 (ksk_fr (ksk_fr F s1 nk.2.1 nk.2.2) s2 na.2.1 na.2.2) (fun p hp => ?_))
  rcases List.mem_cons.mp hp with rfl | hp
  · exact ⟨hc2, na.2⟩
  · exact N2 p hp
theorem katTups {h : Heap} : ∀ {kv : List Value} {kz : List (Int × Int)}, KeysAt h kv kz → ∃ fs, KatTups h kv fs ∧ fs.length = kz.length ∧ ∀ v ∈ fs, ∃ a t, v = .int a t
  | [], [], _ => ⟨[], .nil, rfl, fun _ hv => nomatch hv⟩
  | [], _ :: _, k => by have := k.1; simp at this
  | _ :: _, [], k => by have := k.1; simp at this
  | v :: kv, (a, b) :: kz, k => by
    obtain ⟨t, t1, t2, e1, e2⟩ := k.2 0 a b rfl
    have e1' : v = .ref t := by simpa using e1
    obtain ⟨fs, h1, h2, h3⟩ := katTups (kv := kv) (kz := kz) ⟨by have := k.1; simpa using this, fun i a b e => k.2 (i + 1) a b e⟩
    subst e1'
    refine ⟨.int a t1 :: fs, .cons e2 rfl rfl rfl h1, by simp [h2], fun v hv => ?_⟩
    rcases List.mem_cons.mp hv with rfl | hv
    · exact ⟨a, t1, rfl⟩
    · exact h3 v hv
theorem srt_end (F : Fr h₀ L s.heap m) (N : News h₀ L s.heap (news ++ [(kS, seqObj "list" keys e), (a, seqObj "list" #[] e1)])) (hka : kS ≠ a) (hnk : ∀ p ∈ news, p.1 ≠ kS) (hna : ∀ p ∈ news, p.1 ≠ a)
    (hk : KeysAt s.heap keys.toList kz) (hasc : Asc kz) (hlen : kz.length = vs.length) (h64 : vs.length < 64)
    (h : ∀ h' tk c, Fr h₀ L h' m → News h₀ L h' ((a, seqObj "list" vs.toArray c) :: news) → P (.done (.ret .none)) { s with heap := h', toks := tk }) :
    wpAny (model prog w) A (ksk_end a false vs.toArray e1 (.ref kS) keys) P E s := by
  have hsz : keys.size = vs.length := by
    have h1 := hk.1
    rw [Array.length_toList] at h1
    omega
  have hzs : (keys.zip vs.toArray).size = vs.length := by rw [Array.size_zip, hsz, List.size_toArray, Nat.min_self]
  unfold ksk_end
  try dsimp only
  simp only [Bool.false_eq_true, if_false]
  by_cases h2 : vs.toArray.size < 2
  · rw [if_pos h2, if_pos h2]
    refine wpAny_bind (wpAny_pure ?_)
    rw [StateT.run_pure]
    refine wpAny_bind (wpAny_pure ?_)
    try dsimp only
    exact srt_tail (st := SortSt.mk' general' (keys.zip vs.toArray) #[] 7 none) F N hka hnk hna hsz h64 rfl rfl h
  · rw [if_neg h2, if_neg h2]
    rw [List.size_toArray] at h2
    obtain ⟨fs, k1, k2, k3⟩ := katTups hk
    refine wpAny_bind ?_
    have hkk := kat_kind (M := model prog w) (A := A) (E := E) (s := s) (T := .type "int") (Q := fun κ s' => κ = tuples' true ∧ s' = s) k1 (by omega) (fun v hv => by obtain ⟨x, t, rfl⟩ := k3 v hv; exact .now) (by decide) ⟨rfl, rfl⟩
    rw [show keys.toList.toArray = keys from Array.toArray_toList] at hkk
    refine wpAny_mono hkk ?_ fun _ _ z => z
    rintro κ s' ⟨rfl, rfl⟩
    refine wpAny_bind (wpAny_mono (wpS_sortT (st := SortSt.mk' (tuples' true) (keys.zip vs.toArray) #[] 7 none) (n := vs.length) (Q := fun _ st' => arrOf st' = keys.zip vs.toArray ∧ failedOf st' = none) hzs (by omega) h64 rfl ?_ fun st' a1 a2 => ⟨a1, a2⟩) ?_ fun _ _ z => z)
    · intro i h1 hi Q hQ
      obtain ⟨⟨x1, x2⟩, hx⟩ : ∃ x, kz[i]? = some x := ⟨_, List.getElem?_eq_getElem (by omega)⟩
      obtain ⟨⟨y1, y2⟩, hy⟩ : ∃ x, kz[i - 1]? = some x := ⟨_, List.getElem?_eq_getElem (by omega)⟩
      obtain ⟨tx, t1, t2, ex, ox⟩ := hk.2 _ _ _ hx
      obtain ⟨ty, t3, t4, ey, oy⟩ := hk.2 _ _ _ hy
      have gx : ∀ (j : Nat) (k : Value), keys.toList[j]? = some k → j < vs.length → ∃ v, (keys.zip vs.toArray)[j]? = some (k, v) := by
        intro j k hj hl
        refine ⟨vs[j], ?_⟩
        rw [← Array.getElem?_toList, ksk_zip, (List.getElem?_zip_eq_some (z := (k, vs[j]))).mpr ⟨hj, List.getElem?_eq_getElem hl⟩]
      obtain ⟨vx, zx⟩ := gx _ _ ex hi
      obtain ⟨vy, zy⟩ := gx _ _ ey (by omega)
      rw [ltAt'_eq]
      refine wpS_bind (wpS_get ?_)
      show wpS _ _ _ _ (do let x ← elem' (keys.zip vs.toArray) i; let y ← elem' (keys.zip vs.toArray) (i - 1); lt' x y) Q _
      rw [elem'_eq, elem'_eq, zx, zy]
      refine wpS_bind (wpS_pure (wpS_bind (wpS_pure ?_)))
      rw [lt'_eq]
      refine wpS_bind (wpS_get ?_)
      refine wpS_bind (wpS_lift (wpAny_attempt (key_lt ox oy ?_ ⟨rfl, ?_⟩)))
      · have := hasc (i - 1) x1 x2 y1 y2 hy (by rw [show i - 1 + 1 = i by omega]; exact hx)
        exact this
      · exact wpS_pure hQ
    · rintro ⟨⟨⟩, st'⟩ s' ⟨rfl, hp, hf⟩
      try dsimp only
      exact srt_tail F N hka hnk hna hsz h64 hp hf h
noncomputable def KeysN (kv : List Value) (kz : List (Int × Int)) (tl : List (Addr × Obj)) : Prop := kv.length = kz.length ∧ ∀ (i : Nat) (a b : Int), kz[i]? = some (a, b) → ∃ t t1 t2, kv[i]? = some (Value.ref t) ∧ (t, keyO a b t1 t2) ∈ tl
inductive KeyEnd (h₀ : Heap) (L : Addr) (m : Str → Option Value) (need : List (Addr × Obj)) (k : Int × Int) (s₁ : Shared) (v : Value) (s₂ : Shared) : Prop
  | mk (h' : Heap) (tk : Nat) (t : Addr) (t1 : Tok) (t2 : Tok) (q0 : s₂ = { s₁ with heap := h', toks := tk }) (q1 : v = .ref t) (q2 : Fr h₀ L h' m) (q3 : News h₀ L h' ((t, keyO k.1 k.2 t1 t2) :: need)) (q4 : ∀ q ∈ need, q.1 ≠ t) : KeyEnd h₀ L m need k s₁ v s₂
theorem KeysN.snoc {kv : List Value} {kz : List (Int × Int)} {tl : List (Addr × Obj)} {t : Addr} {a b : Int} {t1 t2 : Tok} (x : KeysN kv kz tl) : KeysN (kv ++ [.ref t]) (kz ++ [(a, b)]) ((t, keyO a b t1 t2) :: tl) := by
  refine ⟨by rw [List.length_append, List.length_append, x.1]; rfl, fun i a' b' e => ?_⟩
  by_cases hi : i < kz.length
  · rw [List.getElem?_append_left hi] at e
    obtain ⟨t', t1', t2', e1, e2⟩ := x.2 i a' b' e
    exact ⟨t', t1', t2', by rw [List.getElem?_append_left (by rw [x.1]; exact hi)]; exact e1, .tail _ e2⟩
  · have hi2 := (List.getElem?_eq_some_iff.mp e).1
    rw [List.length_append] at hi2
    simp at hi2
    obtain rfl : i = kz.length := by omega
    rw [List.getElem?_append_right (Nat.le_refl _)] at e
    simp at e
    obtain ⟨rfl, rfl⟩ := e
    refine ⟨t, t1, t2, ?_, .head _⟩
    rw [List.getElem?_append_right (by rw [x.1]; exact Nat.le_refl _), x.1]
    simp
theorem srt_rest {f : Value} (F : Fr h₀ L s.heap m) (N : News h₀ L s.heap (news ++ [(kS, seqObj "list" #[] 0), (a, seqObj "list" #[] e1)])) (hka : kS ≠ a) (hnk : ∀ p ∈ news, p.1 ≠ kS) (hna : ∀ p ∈ news, p.1 ≠ a)
    (hasc : Asc kz) (hlen : kz.length = vs.length) (h64 : vs.length < 64)
    (turn : ∀ (i : Nat) (v : Value) (k : Int × Int), vs[i]? = some v → kz[i]? = some k → ∀ (h : Heap) (tk : Nat) (own : List (Addr × Obj)), Fr h₀ L h m → News h₀ L h (news ++ own) →
      wpAny (model prog w) A (call f [v]) (KeyEnd h₀ L m (news ++ own) k { s with heap := h, toks := tk }) (fun _ _ => False) { s with heap := h, toks := tk })
    (h : ∀ h' tk c, Fr h₀ L h' m → News h₀ L h' ((a, seqObj "list" vs.toArray c) :: news) → P (.done (.ret .none)) { s with heap := h', toks := tk }) :
    wpAny (model prog w) A (ksk_rest a f false vs.toArray e1 (.ref kS)) P E s := by
  unfold ksk_rest
  refine wpAny_bind (wpAny_rule ?_)
  first
    | rw [List.forIn_toArray]
    | (rw [← Array.forIn_toList]; simp only [List.toList_toArray])
    | rw [← Array.forIn_toList]
  refine wpAny_bind (ksk_fold (fun i s' => ∃ h' tk kA e tl, s' = { s with heap := h', toks := tk } ∧ Fr h₀ L h' m ∧ News h₀ L h' (news ++ (tl ++ [(kS, seqObj "list" kA e), (a, seqObj "list" #[] e1)])) ∧ KeysN kA.toList (kz.take i) tl ∧ (∀ q ∈ tl, q.1 ≠ kS ∧ q.1 ≠ a)) vs 0 s
    ⟨s.heap, s.toks, #[], 0, [], rfl, F, N, ⟨by simp, fun i a b e => by simp at e⟩, fun _ hq => nomatch hq⟩ ?step ?done)
  case step =>
    rintro j x s' hx ⟨h', tk, kA, e, tl, rfl, F', N', hk, htl⟩
    simp only [Nat.zero_add] at hk ⊢
    have hj : j < vs.length := (List.getElem?_eq_some_iff.mp hx).1
    obtain ⟨k, hkj⟩ : ∃ k, kz[j]? = some k := ⟨_, List.getElem?_eq_getElem (by omega)⟩
    have hz : kA.size ≤ vs.length := by
      have h1 := hk.1
      rw [Array.length_toList, List.length_take] at h1
      omega
    refine wpAny_bind (wpAny_attempt (wpAny_mono (turn j x k hx hkj h' tk _ F' N') (fun v s'' he => ?_) fun _ _ hF => hF.elim))
    obtain ⟨g, tk2, t, t1, t2, rfl, rfl, F2, N2, hne⟩ := he
    try dsimp only
    have mk : (kS, seqObj "list" kA e) ∈ news ++ (tl ++ [(kS, seqObj "list" kA e), (a, seqObj "list" #[] e1)]) := List.mem_append_right _ (List.mem_append_right _ (.head _))
    have ma : (a, seqObj "list" #[] e1) ∈ news ++ (tl ++ [(kS, seqObj "list" kA e), (a, seqObj "list" #[] e1)]) := List.mem_append_right _ (List.mem_append_right _ (.tail _ (.head _)))
    have nk := N2 _ (.tail _ mk)
    have na := N2 _ (.tail _ ma)
    have s1 := Heap.SameBut.update g kS (Obj.mapSeq (·.push (.ref t)))
    obtain ⟨c2, hc2⟩ : ∃ c2, (g.update kS (Obj.mapSeq (·.push (.ref t)))).get? kS = some (seqObj "list" (kA.push (.ref t)) c2) := ⟨_, get?_update_seq nk.1 (·.push (.ref t))⟩
    have ek : kz.take (j + 1) = kz.take j ++ [(k.1, k.2)] := by rw [List.take_add_one, hkj]; simp
    have ea : (kA.push (Value.ref t)).toList = kA.toList ++ [Value.ref t] := by simp
    refine wpAny_bind (listUpdate_at nk.1 rfl ?_ (by rw [sizeLine_eq]; omega) (Nat.le_trans (Nat.le_of_eq (Array.size_push ..)) (by rw [sizeLine_eq]; omega)))
    refine wpAny_pure ⟨rfl, _, _, kA.push (.ref t), c2, (t, keyO k.1 k.2 t1 t2) :: tl, rfl, ksk_fr F2 s1 nk.2.1 nk.2.2, fun p hp => ?_, by rw [ea, ek]; exact hk.snoc, fun q hq => ?_⟩
    · have off : ∀ p ∈ (t, keyO k.1 k.2 t1 t2) :: (news ++ tl), p.1 ≠ kS := fun p hp => by
        rcases List.mem_cons.mp hp with rfl | hp
        · exact (hne _ mk).symm
        rcases List.mem_append.mp hp with hp | hp
        · exact hnk p hp
        · exact (htl p hp).1
      have N3 := ksk_news (news := (t, keyO k.1 k.2 t1 t2) :: (news ++ tl)) (fun q hq => N2 q (by
        rcases List.mem_cons.mp hq with rfl | hq
        · exact .head _
        rcases List.mem_append.mp hq with hq | hq
        · exact .tail _ (List.mem_append_left _ hq)
        · exact .tail _ (List.mem_append_right _ (List.mem_append_left _ hq)))) s1 off
      rcases List.mem_append.mp hp with hp | hp
      · exact N3 p (.tail _ (List.mem_append_left _ hp))
      rcases List.mem_append.mp hp with hp | hp
      · rcases List.mem_cons.mp hp with rfl | hp
        · exact N3 _ (.head _)
        · exact N3 p (.tail _ (List.mem_append_right _ hp))
      rcases List.mem_cons.mp hp with rfl | hp
      · exact ⟨hc2, nk.2⟩
      · rw [List.mem_singleton.mp hp]
        exact ⟨(s1.2 a hka.symm).trans na.1, na.2⟩
    · rcases List.mem_cons.mp hq with rfl | hq
      · exact ⟨(hne _ mk).symm, (hne _ ma).symm⟩
      · exact htl q hq
  case done =>
    rintro s' ⟨h', tk, kA, e, tl, rfl, F', N', hk, htl⟩
    have e3 : kz.take (0 + vs.length) = kz := List.take_of_length_le (by omega)
    rw [e3] at hk
    have N4 : News h₀ L h' ((news ++ tl) ++ [(kS, seqObj "list" kA e), (a, seqObj "list" #[] e1)]) := by rw [List.append_assoc]; exact N'
    have nk := N4 (kS, seqObj "list" kA e) (List.mem_append_right _ (.head _))
    try dsimp only
    refine wpAny_bind (listItems_at nk.1 rfl ?_)
    refine srt_end (news := news ++ tl) F' N4 hka ?_ ?_ ⟨hk.1, fun i a b e => ?_⟩ hasc hlen h64 fun h3 tk3 c F3 N3 => h h3 tk3 c F3 fun q hq => N3 q ?_
    · intro p hp
      rcases List.mem_append.mp hp with hp | hp
      · exact hnk p hp
      · exact (htl p hp).1
    · intro p hp
      rcases List.mem_append.mp hp with hp | hp
      · exact hna p hp
      · exact (htl p hp).2
    · obtain ⟨t, t1, t2, e1, e2⟩ := hk.2 i a b e
      exact ⟨t, t1, t2, e1, (N4 _ (List.mem_append_left _ (List.mem_append_right _ e2))).1⟩
    · rcases List.mem_cons.mp hq with rfl | hq
      · exact .head _
      · exact .tail _ (List.mem_append_left _ hq)
end
end Mine
namespace Mine
section
variable {prog : Program} {w : World} {A : Around} {E : Value → Shared → Prop} {s : Shared} {h₀ : Heap} {L : Addr} {m : Str → Option Value} {news : List (Addr × Obj)} {a : Addr} {vs : List Value} {kz : List (Int × Int)} {P : PySem.Fin → Shared → Prop}
theorem srt_sort {f : Value} {n : Nat} (F : Fr h₀ L s.heap m) (N : News h₀ L s.heap news) (ho : s.heap.get? a = some (seqObj "list" vs.toArray n)) (haL : a ≠ L) (ha0 : h₀.get? a = none) (hna : ∀ p ∈ news, p.1 ≠ a)
    (hasc : Asc kz) (hlen : kz.length = vs.length) (h64 : vs.length < 64)
    (turn : ∀ (i : Nat) (v : Value) (k : Int × Int), vs[i]? = some v → kz[i]? = some k → ∀ (h : Heap) (tk : Nat) (own : List (Addr × Obj)), Fr h₀ L h m → News h₀ L h (news ++ own) →
      wpAny (model prog w) A (call f [v]) (KeyEnd h₀ L m (news ++ own) k { s with heap := h, toks := tk }) (fun _ _ => False) { s with heap := h, toks := tk })
    (h : ∀ h' tk c, Fr h₀ L h' m → News h₀ L h' ((a, seqObj "list" vs.toArray c) :: news) → P (.done (.ret .none)) { s with heap := h', toks := tk }) :
    wpAny (model prog w) A (ksk_tree a f false) P E s := by
  have ha : a < s.heap.objs.size := Heap.lt_size ho
  have s1 := Heap.SameBut.update s.heap a (Obj.mapSeq fun _ => (#[] : Array Value))
  obtain ⟨e1, ho1⟩ : ∃ e1, (s.heap.update a (Obj.mapSeq fun _ => (#[] : Array Value))).get? a = some (seqObj "list" #[] e1) := ⟨_, get?_update_seq ho fun _ => #[]⟩
  have F1 := ksk_fr F s1 haL ha0
  have N1 := ksk_news N s1 hna
  obtain ⟨H, hH⟩ : ∃ H, H = (s.heap.update a (Obj.mapSeq fun _ => (#[] : Array Value))).push (seqObj "tuple" vs.toArray 0) := ⟨_, rfl⟩
  have hkS : H.objs.size = s.heap.objs.size + 1 := by rw [hH, size_push', Heap.size_update]
  have FH : Fr h₀ L H m := by rw [hH]; exact F1.push _
  have hLk : L < H.objs.size := FH.ns.lt
  have kH : ∀ b o, (s.heap.update a (Obj.mapSeq fun _ => (#[] : Array Value))).get? b = some o → H.get? b = some o := fun b o q => by rw [hH]; exact Heap.get?_push_of_some _ q
  unfold ksk_tree
  refine wpAny_bind (listItems_at ho rfl ?_)
  refine wpAny_bind (listUpdate_at ho rfl ?_ (by rw [List.size_toArray, sizeLine_eq]; omega) (Nat.zero_le _))
  refine wpAny_bind (seqEpoch_at ho1 rfl ?_)
  refine wpAny_bind (wpAny_newTuple ?_ (by show vs.length ≤ _; rw [sizeLine_eq]; omega))
  refine wpAny_bind (wpAny_newList ?_ (Nat.zero_le _))
  refine wpAny_holding ?_
  show wpAny (model prog w) A (ksk_rest a f false vs.toArray e1 (.ref ((s.heap.update a (Obj.mapSeq fun _ => (#[] : Array Value))).push (seqObj "tuple" vs.toArray 0)).objs.size)) P E { s with heap := ((s.heap.update a (Obj.mapSeq fun _ => (#[] : Array Value))).push (seqObj "tuple" vs.toArray 0)).push (seqObj "list" #[] 0) }
  rw [← hH]
  refine srt_rest (s := { s with heap := H.push (seqObj "list" #[] 0) }) (kS := H.objs.size) (FH.push _) (fun p hp => ?_) (by rw [hkS]; exact Nat.ne_of_gt (Nat.lt_succ_of_lt ha)) (fun p hp => by rw [hkS]; exact Nat.ne_of_lt (Nat.lt_succ_of_lt (Heap.lt_size (N p hp).1))) hna hasc hlen h64 turn h
  rcases List.mem_append.mp hp with hp | hp
  · exact ⟨Heap.get?_push_of_some _ (kH _ _ (N1 p hp).1), (N1 p hp).2⟩
  · rcases List.mem_cons.mp hp with rfl | hp
    · exact ⟨Heap.get?_push_size _ rfl, Nat.ne_of_gt hLk, Heap.get?_none_of_le (Nat.le_trans F.above (Nat.le_of_lt hLk))⟩
    · rw [List.mem_singleton.mp hp]
      exact ⟨Heap.get?_push_of_some _ (kH _ _ ho1), haL, ha0⟩
end
section
variable {prog : Program} {w : World} {A : Around} {E : Value → Shared → Prop} {s : Shared} {h₀ : Heap} {L l : Addr} {m : Str → Option Value} {news : List (Addr × Obj)} {vs : List Value} {kz : List (Int × Int)} {Q : Value → Shared → Prop}
theorem srt_sorted {f : Addr} (F : Fr h₀ L s.heap m) (N : News h₀ L s.heap news) (hl : s.heap.IsList l vs.toArray) (hasc : Asc kz) (hlen : kz.length = vs.length) (h64 : vs.length < 64)
    (turn : ∀ (i : Nat) (v : Value) (k : Int × Int), vs[i]? = some v → kz[i]? = some k → ∀ (h : Heap) (tk : Nat) (own : List (Addr × Obj)), Fr h₀ L h m → News h₀ L h (news ++ own) →
      wpAny (model prog w) A.in1.in1 (call (.ref f) [v]) (KeyEnd h₀ L m (news ++ own) k { s with heap := h, toks := tk }) (fun _ _ => False) { s with heap := h, toks := tk })
    (h : ∀ D h' tk c, Fr h₀ L h' m → News h₀ L h' ((D, seqObj "list" vs.toArray c) :: news) → (∀ q ∈ news, q.1 < D) → Q (.ref D) { s with heap := h', toks := tk }) :
    wpAny (model prog w) A (call (.builtin "sorted") [.ref l] [(Str.ofString "key", .ref f)]) Q E s := by
  refine call_function_entry_kw kind_sorted plain_sorted entry_sorted (ksk_s1 _ _) ?_
  unfold Builtin.«sorted»
  refine wpAny_bind (m := checkCount "sorted" 1 1 _) (wpAny_pure ?_)
  refine wpAny_bind (collect_list hl ?_ (by rw [sizeLine_eq]; omega))
  refine wpAny_bind (wpAny_newList ?_ (by rw [sizeLine_eq]; omega))
  have hsz : ((s.heap.push (seqObj "list" #[] 0)).update s.heap.objs.size (Obj.mapSeq (· ++ vs.toArray))).objs.size = s.heap.objs.size + 1 := by
    rw [Heap.size_update, size_push']
  have hoL : (((s.heap.push (seqObj "list" #[] 0)).update s.heap.objs.size (Obj.mapSeq (· ++ vs.toArray))).push (seqObj "list" vs.toArray 0)).get? (s.heap.objs.size + 1) = some (seqObj "list" vs.toArray 0) := by
    rw [← hsz]; exact Heap.get?_push_size _ rfl
  have keep : ∀ b o, s.heap.get? b = some o → (((s.heap.push (seqObj "list" #[] 0)).update s.heap.objs.size (Obj.mapSeq (· ++ vs.toArray))).push (seqObj "list" vs.toArray 0)).get? b = some o := fun b o q => by
    have hlt : b < s.heap.objs.size := Heap.lt_size q
    rw [Heap.get?_push_ne _ _ _ (by rw [hsz]; exact Nat.ne_of_lt (Nat.lt_succ_of_lt hlt)), Heap.get?_update_ne _ _ _ _ (Nat.ne_of_lt hlt), Heap.get?_push_ne _ _ _ (Nat.ne_of_lt hlt)]
    exact q
  have hL : L < s.heap.objs.size := F.ns.lt
  show wpAny _ _ _ _ _ { s with heap := ((s.heap.push (seqObj "list" #[] 0)).update s.heap.objs.size (Obj.mapSeq (· ++ vs.toArray))).push (seqObj "list" vs.toArray 0) }
  rw [hsz]
  refine wpAny_bind (wpAny_holding (wpAny_call_entry_kw slot_list_sort ⟨_, hoL, rfl⟩ entry_list_sort ?body (ksk_l1 _ _)))
  case body =>
    show wpAny (model prog w) A.in1.in1 (Builtin.«list.sort» ⟨[.ref (s.heap.objs.size + 1)], [(Str.ofString "key", .ref f)]⟩) _ _ _
    rw [ksk_t1]
    refine srt_sort (s := { s with heap := ((s.heap.push (seqObj "list" #[] 0)).update s.heap.objs.size (Obj.mapSeq (· ++ vs.toArray))).push (seqObj "list" vs.toArray 0) })
      (F.kept keep) (N.grown keep) hoL (Nat.ne_of_gt (Nat.lt_succ_of_lt hL)) (Heap.get?_none_of_le (Nat.le_trans F.above (Nat.le_succ_of_le (Nat.le_of_lt hL))))
      (fun p hp => Nat.ne_of_lt (Nat.lt_succ_of_lt (Heap.lt_size (N p hp).1))) hasc hlen h64 turn fun h' tk c F' N' => ⟨_, rfl, ?_⟩
    exact wpAny_pure ⟨_, rfl, h _ h' tk c F' N' (fun q hq => Nat.lt_succ_of_lt (Heap.lt_size (N q hq).1))⟩
end
end Mine
namespace Mine
/-- a call of a function with cells of its own, over a base that keeps some objects out -/
theorem callCN_any {prog : Program} {w : World} {A : Around} {s : Shared} {K : Frag} {p : Program} {loose : List Str} {mg mb : Str → Option Value} {R : Result → Shared → Prop} {mean : ExcName → Option Value} {h₀ : Heap} {news : List (Addr × Obj)}
    {name qual : Str} {params : Arguments} {body : List Stmt} {scope : Scope} {dV kV doc pm cdv ct oc : Value} {an od : Option Addr} {osl : Array (Option Value)} {f : Addr} {args : Args} {binds : List (Str × Value)}
    (X : K.In h₀) (T : Top p loose mean mg mb h₀) (k₀ : Kp h₀ s.heap) (hs₀ : h₀.objs.size ≤ s.heap.objs.size) (N : ∀ q ∈ news, s.heap.get? q.1 = some q.2 ∧ h₀.get? q.1 = none)
    (ho : K.lookup f = some ⟨oc, od, .func (fnOf name qual params body scope dV kV doc pm an cdv ct), osl⟩) (hcd : codeIn K cdv qual = true) (hroom : A.depth < recursionLimit)
    (hbind : BindsTo s (fnOf name qual params body scope dV kV doc pm an cdv ct) args binds) (hkind : (binds.all fun y => scope.names.lookup y.1 == some .local || scope.names.lookup y.1 == some .cell) = true)
    (hnd : ((cellsFrom 0 scope.names []).map (·.1)).Nodup)
    (h : ∀ L' h₁ tk cells, L' = s.heap.objs.size → Fr h₀ L' h₁ (bindL (envOfC qual scope L' f cdv).kindOf binds fun _ => none) → News h₀ L' h₁ (cells ++ news) →
      CellsAre (bindC (envOfC qual scope L' f cdv).kindOf binds fun _ => none) (cellsFrom (L' + 1) scope.names []) cells → (∀ q ∈ news, @LT.lt Nat _ q.1 L') →
      wpAny (model prog w) (A.deeper (envOfC qual scope L' f cdv)) (execs body (envOfC qual scope L' f cdv))
        (fun fl s' => R (.ok (.ret (match fl with | .ret v => v | _ => .none))) s')
        (fun e s' => wpAny (model prog w) (A.deeper (envOfC qual scope L' f cdv)) (leaving (envOfC qual scope L' f cdv) e) (fun _ s'' => R (.error e) s'') (fun e' s'' => R (.error e') s'') s')
        { s with heap := h₁, toks := tk })
    (hco : scope.isCoroutine = false) (hgen : scope.isGenerator = false) (hk : scope.kind = .function) : codeAny (model prog w) A (.call (.ref f) args) R s := by
  refine codeAny_call_function hroom (k₀ _ _ (X _ _ ho)) rfl hco hgen rfl (codeRec_of (X.keeps k₀) hcd) (hbind _ _ _ _ ?_)
  refine wpAny_newFunctionEnv_cells hk (kindsX hkind _) fun env' he s' x => ?_
  subst he
  refine ⟨(T.nolimit.keeps k₀).keeps x.toInCall.keep, codeAny_func ?_⟩
  obtain ⟨h₁, tk, rfl, _⟩ := x.done
  have hk₁ := x.toInCall.keep
  obtain ⟨cells, NC, Y⟩ := Cl.news (h₀ := h₀) hs₀ fun n c hm => ⟨x.cell n c (lookup_of_mem_nodup (cellsFrom_names scope.names 0 (s.heap.objs.size + 1) [] [] rfl ▸ hnd) hm), x.above n c hm⟩
  refine h _ h₁ tk cells rfl ⟨x.toInCall.ns, fun b o e => hk₁ b o (k₀ b o e), hs₀⟩ (fun q hq => ?_) Y fun q hq => Heap.lt_size (N q hq).1
  rcases List.mem_append.mp hq with hq | hq
  · exact NC q hq
  · exact ⟨hk₁ _ _ (N q hq).1, Nat.ne_of_lt (Heap.lt_size (N q hq).1), (N q hq).2⟩
/-- a call of a lambda -/
theorem lam_call {prog : Program} {w : World} {A : Around} {s : Shared} {K : Frag} {p : Program} {loose : List Str} {mg mb : Str → Option Value} {R : Result → Shared → Prop} {mean : ExcName → Option Value} {h₀ : Heap} {news : List (Addr × Obj)}
    {name qual : Str} {params : Arguments} {body : Expr} {scope : Scope} {cl : List (Str × Addr)} {pm ctv : Value} {c' f : Addr} {args : Args} {binds : List (Str × Value)}
    (X : K.In h₀) (T : Top p loose mean mg mb h₀) (k₀ : Kp h₀ s.heap) (hs₀ : h₀.objs.size ≤ s.heap.objs.size) (N : ∀ q ∈ news, s.heap.get? q.1 = some q.2 ∧ h₀.get? q.1 = none)
    (ho : s.heap.get? f = some (kla_obj name qual params body scope cl pm c' ctv)) (hcd : s.heap.CodeRec (.ref c') qual) (hroom : A.depth < recursionLimit)
    (hbind : bindArgs (kla_fn name qual params body scope cl pm (.ref c') ctv) args = pure binds) (hloc : ∀ y ∈ binds, scope.names.lookup y.1 = some .local)
    (h : ∀ L' h₁, L' = s.heap.objs.size → Fr h₀ L' h₁ (fun y => binds.reverse.lookup y) → News h₀ L' h₁ news → (∀ q ∈ news, @LT.lt Nat _ q.1 L') →
      wpAny (model prog w) (A.deeper (envX qual scope L' f (.ref c') cl)) (eval body (envX qual scope L' f (.ref c') cl)) (fun v s' => R (.ok (.ret v)) s')
        (fun e s' => wpAny (model prog w) (A.deeper (envX qual scope L' f (.ref c') cl)) (leaving (envX qual scope L' f (.ref c') cl) e) (fun _ s'' => R (.error e) s'') (fun e' s'' => R (.error e') s'') s')
        { s with heap := h₁, toks := s.toks + binds.length })
    (hco : scope.isCoroutine = false) (hgen : scope.isGenerator = false) (hk : scope.kind = .function) (hcell : ∀ x ∈ scope.names, x.2 ≠ .cell) : codeAny (model prog w) A (.call (.ref f) args) R s := by
  refine kla_callFunE hroom ho rfl hco hgen rfl hcd ?_
  rw [hbind]
  refine wpAny_pure (wpAny_newFunctionEnv hcell hloc (fun h₁ hns hsb => ⟨(T.nolimit.keeps k₀).fresh _ hsb, ?_⟩) hk)
  show codeAny _ _ (.expr body (envX qual scope s.heap.objs.size f (.ref c') cl)) _ _
  have hk₁ : ∀ b o, s.heap.get? b = some o → h₁.get? b = some o := fun b o e => hsb.extBut b o (Nat.ne_of_lt (Heap.lt_size e)) (Heap.get?_push_of_some _ e)
  exact kla_codeExpr (h _ h₁ rfl ⟨hns, fun b o e => hk₁ b o (k₀ b o e), hs₀⟩ (fun q hq => ⟨hk₁ _ _ (N q hq).1, Nat.ne_of_lt (Heap.lt_size (N q hq).1), (N q hq).2⟩) fun q hq => Heap.lt_size (N q hq).1)
/-- the table of codes made inside a function: empty, or the one lambda's -/
noncomputable def TabOk (pos : Pos) (qual : Str) (ps : Array Value) (h : Heap) : Prop := ps = #[] ∨ ∃ c', ps = #[rawInt pos.line, rawInt pos.col, .ref c'] ∧ h.CodeRec (.ref c') qual
theorem lam_make {M : Model} {A : Around} {E : Value → Shared → Prop} {s : Shared} {h₀ : Heap} {L a c P : Addr} {m mg mb : Str → Option Value} {cn : Str} {cs : Scope} {ccd : Value} {cl : List (Str × Addr)} {news : List (Addr × Obj)} {g : Obj → List (Addr × Obj)}
    {p : Program} {loose : List Str} {mean : ExcName → Option Value} {params : Arguments} {body : Expr} {scope : Scope} {ps : Array Value} {pos : Pos} {clos : List (Str × Addr)} {Q : Value → Shared → Prop}
    (hdef : defaultsOf params (envX cn cs L a ccd cl) = ([], [])) (F : Fr h₀ L s.heap m) (N : News h₀ L s.heap news) (T : Top p loose mean mg mb h₀) (C : CodeHd h₀ c P) (hcd : ccd = .ref c) (U : UpdF P (tabObj ps) news g)
    (tab : TabOk pos ((envX cn cs L a ccd cl).qual ++ "<lambda>") ps h₀) (hcl : closureFor scope (envX cn cs L a ccd cl) = pure clos)
    (h : ∀ f c' ctv h' tk ps' extra, Fr h₀ L h' m → News h₀ L h' ((f, kla_obj "<lambda>" ((envX cn cs L a ccd cl).qual ++ "<lambda>") params body scope clos ((mg "__name__").getD .none) c' ctv) :: (extra ++ g (tabObj ps'))) →
      (∀ h'', Kp h₀ h'' → (∀ q ∈ extra, h''.get? q.1 = some q.2) → h''.CodeRec (.ref c') ((envX cn cs L a ccd cl).qual ++ "<lambda>") ∧ TabOk pos ((envX cn cs L a ccd cl).qual ++ "<lambda>") ps' h'') → (∀ q ∈ news, @LT.lt Nat _ q.1 f) → ((extra = [] ∧ ps' = ps) ∨ ∃ c'' oc, extra = [(c'', oc)] ∧ ps' = #[rawInt pos.line, rawInt pos.col, .ref c''] ∧ (∀ q ∈ news, @LT.lt Nat _ q.1 c'') ∧ ∀ h'' : Heap, h''.get? c'' = some oc → h''.CodeRec (.ref c'') ((envX cn cs L a ccd cl).qual ++ "<lambda>")) → Q (.ref f) { s with heap := h', toks := tk }) :
    wpAny M A (eval (.Lambda params body scope pos) (envX cn cs L a ccd cl)) Q E s := by
  refine kla_eval hdef ?_
  rcases tab with rfl | ⟨c', rfl, hrec⟩
  · refine kla_nest F N T C hcd U trivial rfl hcl fun f c' oc vs t ctv h' tk F' N' d1 d2 l1 l2 => ?_
    have hrec : ∀ h'' : Heap, (∀ q ∈ [(c', oc)], h''.get? q.1 = some q.2) → h''.CodeRec (.ref c') ((envX cn cs L a ccd cl).qual ++ "<lambda>") := fun h'' k => ⟨c', oc, vs, t, rfl, k _ (.head _), d1, d2⟩
    exact h f c' ctv h' tk _ [(c', oc)] F' N' (fun h'' _ k => ⟨hrec h'' k, .inr ⟨c', rfl, hrec h'' k⟩⟩) (fun q hq => Nat.lt_trans (l1 q hq) l2) (.inr ⟨c', oc, rfl, rfl, l1, fun h'' e => hrec h'' (List.forall_mem_cons.mpr ⟨e, List.forall_mem_nil _⟩)⟩)
  · obtain ⟨own, rest, e, hg, h1, h2⟩ := id U.split
    refine kla_hit F N T C hcd (c' := c') (ps := #[rawInt pos.line, rawInt pos.col, .ref c']) (by rw [e]; exact List.mem_append_right _ (.head _)) (show TriplesOk [rawInt pos.line, rawInt pos.col, .ref c'] from trivial) (by show codeAmong pos [rawInt pos.line, rawInt pos.col, .ref c'] = _; simp [codeAmong, rawInt]) hcl fun f ctv h' tk F' N' l => ?_
    refine h f c' ctv h' tk #[rawInt pos.line, rawInt pos.col, .ref c'] [] F' ?_ (fun h'' k _ => ⟨hrec.keeps k, .inr ⟨c', rfl, hrec.keeps k⟩⟩) l (.inl ⟨rfl, rfl⟩)
    rw [hg, List.nil_append, ← e]
    exact N'
end Mine
namespace Mine
theorem resetLm : True := by
  k_with_none
  w_top off
  trivial
theorem intKind_inv {prog : Program} {w : World} {k : Int} {v : Value} (h : (PySem.intKind prog w).is k v = true) : ∃ t, v = .int k t := by
  cases v <;> simp [PySem.intKind, Value.isInt] at h
  exact ⟨_, by rw [h]⟩
theorem Kvs.get : ∀ {kvs : List (Int × Value)} {F : List (Nat × Nat)}, Kvs kvs F → ∀ (i : Nat) (k : Int) (x : Value), kvs[i]? = some (k, x) → ∃ p j, F[i]? = some (p, j) ∧ k = (p : Nat)
  | _, _, .nil, _, _, _, e => by simp at e
  | _, _, .cons (p := p) (i := j) _, 0, _, _, e => by
    simp at e
    exact ⟨p, j, rfl, e.1.symm⟩
  | _, _, .cons h, i + 1, k, x, e => Kvs.get h i k x (by simpa using e)
theorem filter_take {P : Nat → Bool} {l : List Nat} {i p : Nat} (h : l[i]? = some p) : (l.take (i + 1)).filter P = (l.take i).filter P ++ if P p = true then [p] else [] := by
  rw [List.take_add_one, h, List.filter_append]
  by_cases z : P p = true
  · simp [z]
  · simp [z]
noncomputable def missing (U : Nat → Nat) (told : List (Nat × Nat)) : List Nat := ((firsts U told).map Prod.fst).filter (fun q => !decide ((q, 1) ∈ told))
/-- by the first name below, the deepest first -/
noncomputable def Before (D : Nat → Nat) (x y : Nat × Nat) : Prop := x.2 < y.2 ∨ (x.2 = y.2 ∧ D y.1 < D x.1)
theorem climb_order {U D : Nat → Nat} {n i : Nat} (hU : Plain.Up n U) (hD : ∀ p, 0 < p → p < n → D p = D (U p) + 1) : ∀ (f : Nat) (F : List (Nat × Nat)) (p : Nat), F.Pairwise (Before D) → (∀ x ∈ F, x.2 < i ∨ (x.2 = i ∧ D p < D x.1)) → p < n →
    (climb U i f F p).Pairwise (Before D) ∧ ∀ x ∈ climb U i f F p, x.2 ≤ i
  | 0, F, p, h1, h2, _ => ⟨h1, fun x hx => by rcases h2 x hx with z | z <;> omega⟩
  | f + 1, F, p, h1, h2, hp => by
    unfold climb
    by_cases z : p = 0 ∨ p ∈ F.map Prod.fst
    · rw [if_pos z]; exact ⟨h1, fun x hx => by rcases h2 x hx with z | z <;> omega⟩
    · rw [if_neg z]
      have z' := not_or.mp z
      have hd := hD p (Nat.pos_of_ne_zero z'.1) hp
      refine climb_order hU hD f _ _ ?_ (fun x hx => ?_) (Nat.lt_trans (hU p (Nat.pos_of_ne_zero z'.1) hp) hp)
      · refine List.pairwise_append.mpr ⟨h1, List.pairwise_singleton _ _, fun x hx y hy => ?_⟩
        rw [List.mem_singleton.mp hy]
        rcases h2 x hx with z | z
        · exact .inl z
        · exact .inr z
      · rcases List.mem_append.mp hx with hx | hx
        · rcases h2 x hx with z | z
          · exact .inl z
          · exact .inr ⟨z.1, by omega⟩
        · rw [List.mem_singleton.mp hx]; exact .inr ⟨rfl, by show D (U p) < D p; omega⟩
theorem firsts_order {U D : Nat → Nat} {n : Nat} (hU : Plain.Up n U) (h0 : U 0 = 0) (hD : ∀ p, 0 < p → p < n → D p = D (U p) + 1) {told : List (Nat × Nat)} (bd : ∀ x ∈ told, x.1 < n) : (firsts U told).Pairwise (Before D) := by
  have key : ∀ k, k ≤ told.length → (firsts U (told.take k)).Pairwise (Before D) ∧ ∀ x ∈ firsts U (told.take k), x.2 < k := by
    intro k
    induction k with
    | zero => intro _; exact ⟨List.Pairwise.nil, fun x hx => nomatch hx⟩
    | succ k ih =>
      intro hk
      obtain ⟨a, b⟩ := ih (Nat.le_of_succ_le hk)
      obtain ⟨⟨p, q⟩, hx⟩ : ∃ x, told[k]? = some x := ⟨_, List.getElem?_eq_getElem hk⟩
      rw [firsts_snoc hx]
      have hp := bd _ (List.mem_of_getElem? hx)
      obtain ⟨c, d⟩ := climb_order (i := k) hU hD (U p + 1) _ (U p) a (fun x hx => .inl (b x hx)) (up_lt hU h0 hp)
      exact ⟨c, fun x hx => Nat.lt_succ_of_le (d x hx)⟩
  have := (key told.length (Nat.le_refl _)).1
  rwa [List.take_length] at this
/-- the keys by which the missing ones are sorted -/
noncomputable def keyOf (D : Nat → Nat) (x : Nat × Nat) : Int × Int := ((x.2 : Nat), -((D x.1 : Nat) : Int))
noncomputable def missF (U : Nat → Nat) (told : List (Nat × Nat)) : List (Nat × Nat) := (firsts U told).filter (fun x => !decide ((x.1, 1) ∈ told))
theorem missF_fst {U : Nat → Nat} {told : List (Nat × Nat)} : (missF U told).map Prod.fst = missing U told := by
  unfold missF missing
  rw [List.filter_map]
  rfl
theorem miss_asc {D : Nat → Nat} {l : List (Nat × Nat)} (h : l.Pairwise (Before D)) : Asc (l.map (keyOf D)) := by
  intro i a b a' b' e1 e2
  rw [List.getElem?_map] at e1 e2
  obtain ⟨x, hx, ex⟩ := Option.map_eq_some_iff.mp e1
  obtain ⟨y, hy, ey⟩ := Option.map_eq_some_iff.mp e2
  have hi := (List.getElem?_eq_some_iff.mp hy).1
  have r := List.pairwise_iff_getElem.mp h i (i + 1) (by omega) hi (Nat.lt_succ_self _)
  rw [(List.getElem?_eq_some_iff.mp hx).2, (List.getElem?_eq_some_iff.mp hy).2] at r
  unfold keyOf at ex ey
  cases ex; cases ey
  rcases r with r | ⟨r1, r2⟩
  · exact .inl (by omega)
  · exact .inr ⟨by omega, by omega⟩
noncomputable def TabL (ps : Array Value) (h : Heap) : Prop := TabOk ⟨169, 28, 169, 73⟩ (Str.ofString "_law_missing" ++ ".<locals>." ++ "<lambda>") ps h
inductive MissRes (h₀ : Heap) (s : Shared) (ps₀ : Array Value) (U : Nat → Nat) (told : List (Nat × Nat)) (r : Result) (s' : Shared) : Prop
  | mk (h : Heap) (tk : Nat) (md : Addr) (vs : List Value) (c : Nat) (ps : Array Value) (q1 : r = .ok (.ret (.ref md))) (q2 : s' = { s with heap := h, toks := tk }) (q3 : Kp h₀ h) (q4 : h.get? md = some (listOf (List.toArray vs) c) ∧ s.heap.get? md = none) (q5 : IntsAre vs (intsN (missing U told))) (q6 : h.get? 178 = some (tabObj ps)) (q7 : TabL ps h)
    (q8 : ps = ps₀ ∨ ∃ c' oc, ps = #[rawInt 169, rawInt 28, .ref c'] ∧ (h.get? c' = some oc ∧ s.heap.get? c' = none) ∧ ∀ h'' : Heap, h''.get? c' = some oc → h''.CodeRec (.ref c') (Str.ofString "_law_missing" ++ ".<locals>." ++ "<lambda>")) : MissRes h₀ s ps₀ U told r s'
/-- a walk stands still here -/
def StillHere (p : Prop) : Prop := p
theorem stayHere {p : Prop} (h : StillHere p) : p := h
theorem goOn {p : Prop} (h : p) : StillHere p := h
local macro_rules | `(tactic| walk_at "subscriptTail") => `(tactic| (k_here; k_dflt (refine stayHere ?_)))
local macro_rules | `(tactic| walk_at "eval ListComp") => rul none `comp_eval "RRD_" 0 'n'
local macro_rules | `(tactic| walk_at "exec Assign cons ListComp") => rul none `assign_comp "SRRD_" 0 'n'
section
variable {w : World} {s : Shared} {mg mb : Str → Option Value} {mean : ExcName → Option Value} {d u : Nat} {gd : Option (List Code)} {outer : List Env} {E : Value → Shared → Prop}
theorem keys_same {F : List (Nat × Nat)} {q a b : Nat} (h : (F.map Prod.fst).Nodup) (h1 : (q, a) ∈ F) (h2 : (q, b) ∈ F) : a = b := by
  induction F with
  | nil => cases h1
  | cons x r ih =>
    rw [List.map_cons, List.nodup_cons] at h
    rcases List.mem_cons.mp h1 with e1 | h1
    · rcases List.mem_cons.mp h2 with e2 | h2
      · rw [← e1] at e2; exact (Prod.mk.inj e2).2.symm
      · exact absurd (List.mem_map.mpr ⟨_, h2, rfl⟩) (by rw [← e1] at h; exact h.1)
    · rcases List.mem_cons.mp h2 with e2 | h2
      · exact absurd (List.mem_map.mpr ⟨_, h1, rfl⟩) (by rw [← e2] at h; exact h.1)
      · exact ih h.2 h1 h2
inductive KeyRes (h7 : Heap) (s : Shared) (news : List (Addr × Obj)) (base : Heap) (k : Int × Int) (r : Result) (s' : Shared) : Prop
  | mk (h' : Heap) (tk : Nat) (t : Addr) (t1 : Tok) (t2 : Tok) (q0 : r = .ok (.ret (.ref t))) (q1 : s' = { s with heap := h', toks := tk }) (q2 : Kp base h') (q3 : (∀ q ∈ news, h'.get? q.1 = some q.2)) (q4 : h'.get? t = some (keyO k.1 k.2 t1 t2)) (q5 : h7.get? t = none) : KeyRes h7 s news base k r s'
theorem above_use {Q : Value → Shared → Prop} {h₀ : Heap} {L : Addr} {m : Str → Option Value} {news : List (Addr × Obj)} {fr : List Env} (X : (hd.heap_1 w.params).In h₀) (T : Top topProg lg mean mg mb h₀) (F : Fr h₀ L s.heap m) (N : News h₀ L s.heap news)
    {ul to : Addr} {uv its : List Value} {n cU cT : Nat} {U : Nat → Nat} {told : List (Nat × Nat)}
    (hl : h₀.get? ul = some (listOf (List.toArray uv) cU)) (hi : TblI uv n U) (hn : n ≤ 90) (h1n : 1 ≤ n) (hU : Plain.Up n U) (hU0 : U 0 = 0) (ht : h₀.get? to = some (listOf (List.toArray its) cT)) (tt : Tups h₀ its told) (bd : ∀ x ∈ told, x.1 < n) (hk : told.length ≤ 500) (hroom : d ≤ 380) (hu : u ≤ 3000)
    (h : ∀ h' tk dd o kvs, Fr h₀ L h' m → News h₀ L h' ((dd, o) :: news) → o.IsDictOf (PySem.intKind prg w) kvs → Kvs kvs (firsts U told) → (dd == sysModules) = false → (∀ q ∈ news, @Ne Nat q.1 dd) → Q (.ref dd) { s with heap := h', toks := tk }) :
    wpAny (model prg w) ⟨none, d, some fr, gd, u⟩ (call (.ref 176) [.ref to, .ref ul]) Q E s := by
  refine wpAny_call (codeAny_mono (above_any (X.keeps F.keep) (T.keeps F.keep) (F.keep _ _ hl) hi hn h1n hU hU0 (F.keep _ _ ht) (tt.keeps F.keep) bd hk hroom hu) fun r s' hr => ?_)
  obtain ⟨h', tk, dd, o, kvs, rfl, rfl, k, ⟨a1, a2⟩, a3, a4, a5⟩ := hr
  have out := out_of F a2
  exact h h' tk dd o kvs (F.keeps k) (List.forall_mem_cons.mpr ⟨⟨a1, out.2, out.1⟩, fun q hq => ⟨k _ _ (N q hq).1, (N q hq).2⟩⟩) a3 a4 a5 fun q hq z => by
    have := (N q hq).1
    rw [show q.1 = dd from z, a2] at this
    cases this
theorem missing_any {h₀ : Heap} (X : (hd.heap_1 w.params).In h₀) (T : Top topProg lg mean mg mb h₀) (k₀ : Kp h₀ s.heap) (hs₀ : h₀.objs.size ≤ s.heap.objs.size) (C : CodeHd h₀ 180 178) {ps : Array Value} (N : ∀ q ∈ [((178 : Nat), tabObj ps)], s.heap.get? q.1 = some q.2 ∧ h₀.get? q.1 = none) (tab : TabL ps h₀) {tr up dp to : Addr} {v0 v3 : Value} {uv dv its : List Value} {n cR cU cD cO : Nat} {U D : Nat → Nat} {told : List (Nat × Nat)}
    (hr : h₀.get? tr = some (listOf (List.toArray [v0, .ref up, .ref dp, v3]) cR)) (hl : h₀.get? up = some (listOf (List.toArray uv) cU)) (hi : TblI uv n U) (hdl : h₀.get? dp = some (listOf (List.toArray dv) cD)) (hdi : TblI dv n D) (hn : n ≤ 60) (h1n : 1 ≤ n) (hU : Plain.Up n U) (hU0 : U 0 = 0)
    (hD : ∀ p, 0 < p → p < n → D p = D (U p) + 1) (ht : h₀.get? to = some (listOf (List.toArray its) cO)) (tt : Tups h₀ its told) (bd : ∀ x ∈ told, x.1 < n) (hk : told.length ≤ 500) (hroom : d ≤ 370) (hu : u ≤ 2000) :
    codeAny (model prg w) ⟨none, d, some outer, gd, u⟩ (.call (.ref 181) ⟨[.ref to, .ref tr], []⟩) (MissRes h₀ s ps U told) s := by
  refine' callCN_any X T k₀ hs₀ N ?k6 ?k7 (by unfold recursionLimit; show d < 1000; omega) ?k9 ?kB ?kC ?_ ?c2 ?c3 ?c4; (case k6 => k_is); (case k7 => k_is); (case k9 => exact BindsTo.of_eq rfl); (case kB => exact rfl); (case kC => decide); (case c2 => exact rfl); (case c3 => exact rfl); (case c4 => exact rfl)
  intro L' h' tk cells hL F' N' Y hlt0; (try dsimp only)
  obtain ⟨o1, o2, o3, hE, d1, d2, d3⟩ := CellsAre.three Y
  subst hE
  clear Y
  have F2 : Fr h₀ L' h' (fun _ => none) := F'
  have N2 : News h₀ L' h' [(L' + 3, o1), (L' + 2, o2), (L' + 1, o3), (178, tabObj ps)] := N'
  have h178 : @LT.lt Nat _ 178 L' := hlt0 _ (.head _)
  have d1' : o1.data = .cell none := d1
  have d2' : o2.data = .cell (some (.ref tr)) := d2
  have d3' : o3.data = .cell (some (.ref to)) := d3
  clear F' N' d1 d2 d3
  show wpAny _ _ _ _ _ _
  k_fold
  k_steps
  refine goOn ?_
  refine' subL (its := [v0, .ref up, .ref dp, v3]) F2 hr ?y1 ?y2 rfl ?_ ?y3
  case y1 => decide
  case y2 => decide
  case y3 => with_unfolding_all rfl
  k_steps
  refine' above_use X T F2 N2 hl hi ?y4 h1n hU hU0 ht tt bd hk ?y5 ?y6 ?_
  case y4 => omega
  case y5 => show d + 1 ≤ 380; omega
  case y6 => show u + 3 ≤ 3000; omega
  intro h2 tk2 dd o kvs F3 N3 hdd hkv lo hne
  have hne1 : @Ne Nat (L' + 3) dd := hne _ (.head _)
  have hne2 : @Ne Nat (L' + 2) dd := hne _ (.tail _ (.head _))
  have hne3 : @Ne Nat (L' + 1) dd := hne _ (.tail _ (.tail _ (.head _)))
  have hne4 : @Ne Nat 178 dd := hne _ (.tail _ (.tail _ (.tail _ (.head _))))
  clear F2 N2 hne
  show wpAny _ _ _ _ _ _
  k_steps
  with_reducible rename Fr _ _ _ _ => kF
  with_reducible rename News _ _ _ _ => kN
  rename_i hh oc dc
  obtain ⟨es, ep, hex, hes, hko, hpa, hnd⟩ := hdd
  have hkl : kvs.length ≤ 60 := by rw [hkv.length]; exact Nat.le_trans (firsts_ok hU hU0 bd).length hn
  refine comp_storeD (s := { s with heap := hh, toks := tk }) (oD₀ := o) (kvs := kvs) (ep := ep) (I := hh.objs.size) (D := hh.objs.size + 1) (C := hh.objs.size + 2) rfl rfl rfl ?q3 ?q4 ?q5 ?q6 ?q1 ?q7 ?q2 kF kN (JFix _ s.gens fun i acc => IntsAre acc (intsN ((((firsts U told).map Prod.fst).take i).filter (fun q => !decide ((q, 1) ∈ told))))) ⟨rfl, rfl, .nil⟩ lo (fun h e => ⟨o, es, e, hex, hes, hko, hpa, hnd⟩) ?hl ?turn ?done ?sz
  case q1 => decide
  case q2 => decide
  case q3 => exact rfl
  case q4 => exact rfl
  case q5 => with_unfolding_all rfl
  case q6 => exact rfl
  case q7 => exact rfl
  case hl => rintro i acc news' g ⟨rfl, rfl, _⟩; exact .head _
  case sz => rw [sizeLine_eq]; omega
  case turn =>
    rintro i v acc news₁ h₁ tk₁ g₁ oI oD oL mC E' ⟨k, x, hkx, hkis⟩ ⟨rfl, rfl, hacc⟩ T2
    obtain ⟨t0, rfl⟩ := intKind_inv hkis
    obtain ⟨p, j, hpj, rfl⟩ := hkv.get i k x hkx
    have FC := T2.F
    have NC := T2.N
    have hxC := T2.hx
    refine tests_one ?_
    show wpAny _ _ _ _ _ _
    k_fold
    k_steps
    with_reducible rename Fr _ (hh.objs.size + 2) _ _ => kF5
    with_reducible rename News _ (hh.objs.size + 2) _ _ => kN5
    have hpi : ((firsts U told).map Prod.fst)[i]? = some p := by rw [List.getElem?_map, hpj]; rfl
    refine' notinTold (p := p) (q := 1) kF5 ht tt (kN5 _ (.head _)).1 (kN5 _ (.head _)).2.2 ?y7 ?_
    case y7 => show u + 3 ≤ 3000; omega
    have hft := filter_take (P := fun q => !decide ((q, 1) ∈ told)) hpi
    cases hb : !decide ((p, 1) ∈ told) with
    | true =>
      rw [if_pos hb] at hft
      show wpAny _ _ _ _ _ _
      k_steps
      with_reducible rename Fr _ (hh.objs.size + 2) _ _ => kF6
      with_reducible rename News _ (hh.objs.size + 2) _ _ => kN6
      refine T2.post kF6 (fun q hq => (kN6 q (.tail _ hq)).1) ⟨rfl, rfl, ?_⟩
      show IntsAre _ (intsN _)
      rw [hft]
      unfold intsN
      rw [List.map_append]
      exact hacc.append (.cons _ t0 .nil)
    | false =>
      rw [if_neg (by rw [hb]; decide), List.append_nil] at hft
      show wpAny _ _ _ _ _ _
      k_steps
      with_reducible rename Fr _ (hh.objs.size + 2) _ _ => kF6
      with_reducible rename News _ (hh.objs.size + 2) _ _ => kN6
      refine T2.post kF6 (fun q hq => (kN6 q (.tail _ hq)).1) ⟨rfl, rfl, ?_⟩
      show IntsAre _ (intsN _)
      rw [hft]
      exact hacc
  case done =>
    rintro acc c h4 tk4 g4 news' ⟨rfl, rfl, hacc⟩ F' N' ne lt
    have hkl2 : kvs.length = ((firsts U told).map Prod.fst).length := by rw [hkv.length, List.length_map]
    rw [hkl2, List.take_length] at hacc
    show wpAny _ _ _ _ _ _
    k_steps
    with_reducible rename Fr _ _ _ _ => kF7
    with_reducible rename News _ _ _ _ => kN7
    have a1 : @LT.lt Nat _ dd (hh.objs.size) := Heap.lt_size (kN _ (.head _)).1
    have a2 : @LT.lt Nat _ (L' + 1 + 1 + 1) (hh.objs.size) := Heap.lt_size (kN _ (.tail _ (.head _))).1
    refine' lam_make ?b0 kF7 kN7 T C ?b1 ?b2 tab ?b3 ?_
    case b0 => exact rfl
    case b1 => exact rfl
    case b2 => k_updF
    case b3 => exact rfl
    intro f c' ctv h5 tk5 ps' extra F5 N5 hrec hlf hxt
    have hpw : (missF U told).Pairwise (Before D) := (firsts_order hU hU0 hD bd).filter _
    have hml : (missF U told).length = acc.length := by
      have e1 := hacc.length
      have e2 : (intsN (missing U told)).length = acc.length := e1.symm
      rw [← e2, ← missF_fst]; unfold intsN; rw [List.length_map, List.length_map]
    have hm60 : (missF U told).length ≤ 60 := by
      refine Nat.le_trans (List.length_filter_le _ _) ?_
      rw [← hkv.length]; exact hkl
    have hlD : @LT.lt Nat _ L' f := by
      have := hlf _ (.head _)
      show @LT.lt Nat _ _ _
      omega
    show wpAny _ _ _ _ _ _
    k_steps
    show wpAny _ _ (call (.builtin "sorted") [.ref (hh.objs.size + 1)] [(Str.ofString "key", .ref f)]) _ _ _
    refine srt_sorted (vs := acc) (kz := (missF U told).map (keyOf D)) F5 N5 ⟨_, (N5 _ (.tail _ (List.mem_append_right _ (.head _)))).1, rfl, c, rfl⟩ (miss_asc hpw) ?e1 ?e2 ?turn ?fin
    case e1 => rw [List.length_map]; exact hml
    case e2 => omega
    case fin =>
      intro R6 h6 tk6 c6 F6 N6 l6
      show MissRes _ _ _ _ _ _ _
      refine ⟨h6, _, R6, acc, c6, ps', rfl, rfl, F6.keep, ⟨(N6 _ (.head _)).1, ?_⟩, hacc, (N6 _ (.tail _ (.tail _ (List.mem_append_right _ (.tail _ (.tail _ (.tail _ (.tail _ (.tail _ (.head _)))))))))).1, ?_, ?_⟩
      · have l7 : @LT.lt Nat _ f R6 := l6 _ (.head _)
        exact Heap.get?_none_of_le (by rw [← hL]; show @LE.le Nat _ _ _; omega)
      · exact (hrec h6 F6.keep fun q hq => (N6 _ (.tail _ (.tail _ (List.mem_append_left _ hq)))).1).2
      · rcases hxt with ⟨_, e⟩ | ⟨c'', oc'', e1, e2, e3, e4⟩
        · exact .inl e
        · subst e1
          refine .inr ⟨c'', oc'', e2, ⟨(N6 _ (.tail _ (.tail _ (List.mem_append_left _ (.head _))))).1, ?_⟩, e4⟩
          have l7 := e3 _ (.head _)
          exact Heap.get?_none_of_le (by rw [← hL]; show @LE.le Nat _ _ _; dsimp only at l7; omega)
    case turn =>
      intro i v k hv hk7 h7 tk7 own F7 N7
      rw [List.getElem?_map] at hk7
      obtain ⟨⟨q, a⟩, hx7, rfl⟩ := Option.map_eq_some_iff.mp hk7
      have hq7 : (intsN (missing U told))[i]? = some ((q : Nat) : Int) := by
        rw [← missF_fst]; unfold intsN; rw [List.getElem?_map, List.getElem?_map, hx7]; rfl
      obtain ⟨t7, ht7⟩ := hacc.get i _ hq7
      rw [hv] at ht7
      obtain rfl : v = .int (q : Nat) t7 := Option.some.inj ht7
      have hmem : (q, a) ∈ firsts U told := (List.mem_filter.mp (List.mem_of_getElem? hx7)).1
      have hok := firsts_ok hU hU0 bd
      have hqn := (hok.2 _ hmem).2
      obtain ⟨ta, hva⟩ : ∃ ta, valueAt kvs ((q : Nat) : Int) = some (.int (a : Nat) ta) := by
        rcases hkv.at (p := q) with ⟨_, b⟩ | ⟨i', t', e1, e2⟩
        · exact absurd (List.mem_map.mpr ⟨_, hmem, rfl⟩) b
        · rw [keys_same hok.1 hmem e2]; exact ⟨t', e1⟩
      have kN3 : ∀ q ∈ [(L' + 1 + 1 + 1, oc), (L' + 2, o2), (dd, o)], h7.get? q.1 = some q.2 ∧ h₀.get? q.1 = none := by
        have g : ∀ q ∈ [(hh.objs.size + 1, listOf (List.toArray acc) c), (dd, o), (L' + 1 + 1 + 1, oc), (L' + 2, o2), (L' + 1, o3), (178, tabObj ps')], h7.get? q.1 = some q.2 ∧ h₀.get? q.1 = none := fun q hq => by
          have := N7 q (List.mem_append_left _ (.tail _ (List.mem_append_right _ hq)))
          exact ⟨this.1, this.2.2⟩
        exact List.forall_mem_cons.mpr ⟨g _ (.tail _ (.tail _ (.head _))), List.forall_mem_cons.mpr ⟨g _ (.tail _ (.tail _ (.tail _ (.head _)))), List.forall_mem_cons.mpr ⟨g _ (.tail _ (.head _)), List.forall_mem_nil _⟩⟩⟩
      have kb : Kp h₀ (hideAll h7 [L' + 1 + 1 + 1, L' + 2, dd]) := fun b ob e => hideAll_get _ (F7.keep _ _ e) fun hm => by
        rcases List.mem_cons.mp hm with z | hm
        · rw [z] at e; rw [(kN3 _ (.head _)).2] at e; cases e
        rcases List.mem_cons.mp hm with z | hm
        · rw [z] at e; rw [(kN3 _ (.tail _ (.head _))).2] at e; cases e
        · rw [List.mem_singleton.mp hm] at e; rw [(kN3 _ (.tail _ (.tail _ (.head _)))).2] at e; cases e
      have kN4 : ∀ q ∈ [(L' + 1 + 1 + 1, oc), (L' + 2, o2), (dd, o)], h7.get? q.1 = some q.2 ∧ (hideAll h7 [L' + 1 + 1 + 1, L' + 2, dd]).get? q.1 = none :=
        List.forall_mem_cons.mpr ⟨⟨(kN3 _ (.head _)).1, hideAll_none _ (.head _)⟩, List.forall_mem_cons.mpr ⟨⟨(kN3 _ (.tail _ (.head _))).1, hideAll_none _ (.tail _ (.head _))⟩, List.forall_mem_cons.mpr ⟨⟨(kN3 _ (.tail _ (.tail _ (.head _)))).1, hideAll_none _ (.tail _ (.tail _ (.head _)))⟩, List.forall_mem_nil _⟩⟩⟩
      have hdO : o.IsDictOf (PySem.intKind prg w) kvs := ⟨es, ep, hex, hes, hko, hpa, hnd⟩
      refine wpAny_call (codeAny_mono (R := KeyRes h7 { s with heap := h7, toks := tk7 } [(L' + 1 + 1 + 1, oc), (L' + 2, o2), (dd, o)] (hideAll h7 [L' + 1 + 1 + 1, L' + 2, dd]) (keyOf D (q, a))) (lam_call (binds := [(Str.ofString "place", .int (q : Nat) t7)]) (X.keeps kb) (T.keeps kb) (fun b o e => of_hideAll _ e) (Nat.le_of_eq (hideAll_size _ _)) kN4 (N7 _ (.head _)).1 ?w1 ?w2 ?w3 ?w4 ?w5 ?w6 ?w7 ?w8 ?w9) ?w10)
      case w1 => exact (hrec h7 F7.keep fun q hq => (N7 _ (List.mem_append_left _ (.tail _ (List.mem_append_left _ hq)))).1).1
      case w2 => unfold recursionLimit; k_room
      case w3 => exact rfl
      case w4 => intro y hy; rw [List.mem_singleton.mp hy]; rfl
      case w6 => exact rfl
      case w7 => exact rfl
      case w8 => exact rfl
      case w9 => decide
      case w10 =>
        rintro r s' ⟨h', tk', t, t1, t2, rfl, rfl, k1, k2, k3, k4⟩
        have kall : Kp h7 h' := fun b ob e => by
          by_cases z1 : b = L' + 1 + 1 + 1
          · rw [z1, (kN3 _ (.head _)).1] at e; cases e; rw [z1]; exact k2 _ (.head _)
          by_cases z2 : b = L' + 2
          · rw [z2, (kN3 _ (.tail _ (.head _))).1] at e; cases e; rw [z2]; exact k2 _ (.tail _ (.head _))
          by_cases z3 : b = dd
          · rw [z3, (kN3 _ (.tail _ (.tail _ (.head _)))).1] at e; cases e; rw [z3]; exact k2 _ (.tail _ (.tail _ (.head _)))
          · exact k1 _ _ (hideAll_get _ e (by simp only [List.mem_cons, not_or]; exact ⟨z1, z2, z3, fun h => nomatch h⟩))
        have ot := out_of F7 k4
        show KeyEnd _ _ _ _ _ _ _ _
        exact ⟨h', tk', t, t1, t2, rfl, rfl, F7.keeps kall, List.forall_mem_cons.mpr ⟨⟨k3, ot.2, ot.1⟩, fun q hq => ⟨kall _ _ (N7 q hq).1, (N7 q hq).2⟩⟩, fun q hq z => by
          have := (N7 q hq).1
          rw [show q.1 = t from z, k4] at this
          cases this⟩
      case w5 =>
        intro L2 h8 hL2 F8 N8 hlt8
        change Fr _ L2 h8 (fun y => List.lookup y [(Str.ofString "place", Value.int (q : Nat) t7)]) at F8
        simp only [lookup_ite, List.lookup_nil] at F8
        show wpAny _ _ _ _ _ _
        k_fold
        k_steps
        with_reducible rename Fr _ L2 _ _ => kF8
        with_reducible rename News _ L2 _ _ => kN8
        refine goOn ?_
        refine' kda_item (knd := PySem.intKind prg w) kN8 (.tail _ (.tail _ (.head _))) hdO (intKind_is _ _ _ _) hva ?_ ?z1 ?z2
        case z1 => with_unfolding_all rfl
        case z2 => intro _; with_unfolding_all rfl
        k_steps
        refine goOn ?_
        refine' subL (its := [v0, .ref up, .ref dp, v3]) kF8 (kb _ _ hr) ?z3 ?z4 rfl ?_ ?z5
        case z3 => decide
        case z4 => decide
        case z5 => with_unfolding_all rfl
        k_steps
        refine goOn ?_
        refine' subB kF8 (kb _ _ hdl) hdi ?z6 ?z7 ?z8 ?_ ?z9
        case z6 => omega
        case z7 => rw [Int.toNat_natCast]; exact hqn
        case z8 => omega
        case z9 => with_unfolding_all rfl
        intro tD
        k_steps
        with_reducible rename Fr _ L2 _ _ => kF9
        with_reducible rename News _ L2 _ _ => kN9
        rename_i Dk h9 lk
        simp only [Int.toNat_natCast] at kN9
        show KeyRes _ _ _ _ _ _ _
        refine ⟨_, _, Dk, _, _, rfl, rfl, kF9.keep, fun q hq => (kN9 q (.tail _ hq)).1, (kN9 _ (.head _)).1, ?_⟩
        cases e9 : h7.get? Dk with
        | none => rfl
        | some ob =>
          have n9 := (kN9 _ (.head _)).2.2
          rw [hideAll_get _ e9 (by
            simp only [List.mem_cons, not_or]
            exact ⟨Nat.ne_of_gt lk.1, Nat.ne_of_gt lk.2.1, Nat.ne_of_gt lk.2.2, fun h => nomatch h⟩)] at n9
          cases n9
end
end Mine
namespace Mine
theorem resetLn : True := by
  k_with_none
  w_top off
  trivial
section
variable {w : World} {s : Shared} {mg mb : Str → Option Value} {mean : ExcName → Option Value} {d u : Nat} {gd : Option (List Code)} {envL : Env} {LL : Nat} {oL : Obj} {E : Value → Shared → Prop}
variable {hB h₀ : Heap} {x dd a C g k : Nat} {o og oC : Obj} {ys : List Str} {news : List (Addr × Obj)}
theorem isl_none (X : (hd.heap_1 w.params).In h₀) (T : Top topProg lg mean mg mb h₀) (hBk : Kp hB h₀) (k₀ : Kp h₀ s.heap) (hs₀ : h₀.objs.size ≤ s.heap.objs.size)
    (N : ∀ q ∈ [(x, o), (dd, dictOf [] 0), (a, og), (C, oC), (LL, oL)], s.heap.get? q.1 = some q.2 ∧ h₀.get? q.1 = none) (ho : IslObj dd (.ref a) 0 1 o) (hA : AncAt w hB a g C [] 0 s)
    (n9 : dd ≠ LL) (n10 : a ≠ LL) (hkL : envL.scope.kind ≠ .module) (hfL : envL.frame = some LL) {mL : Str → Option Value} (hnsL : ∀ h : Heap, h.get? LL = some oL → h.Ns LL mL) (hroom : d ≤ 390) (hu : u ≤ 3000) (n1 : x ≠ dd) (n2 : x ≠ a) (n3 : x ≠ C) (n4 : dd ≠ a) (n5 : dd ≠ C) (n6 : a ≠ C) (n7 : x ≠ LL) (n8 : C ≠ LL) :
    codeAny (model prg w) ⟨none, d, some [envL], gd, u⟩ (.call (.ref 64) ⟨[.ref x], []⟩) (IslStop g LL mL h₀ s) s := by
  obtain ⟨t0, t2, t3, t4, rfl⟩ := ho
  refine' call_anyN X T k₀ hs₀ N ?k6 ?k7 (by unfold recursionLimit; show d < 1000; omega) ?k9 ?kB ?_ ?c2 ?c3 ?c4 ?c5; (case k6 => k_is); (case k7 => k_is); (case k9 => exact BindsTo.of_eq rfl); (case c5 => decide); (case kB => exact locs rfl); (case c2 => exact rfl); (case c3 => exact rfl); (case c4 => exact rfl)
  intro L' h' hL F' N' k1 X' T'; (try dsimp only)
  k_fold
  k_steps
  with_reducible rename Fr _ L' _ _ => kF
  with_reducible rename News _ L' _ _ => kN
  have hoa := (N (a, og) (.tail _ (.tail _ (.head _)))).1
  have hoC := (N (C, oC) (.tail _ (.tail _ (.tail _ (.head _))))).1
  refine' next_gen (hA.frame (fun o' e => by rw [hoa] at e; cases e; exact (kN _ (.tail _ (.tail _ (.head _)))).1) (fun o' e => by rw [hoC] at e; cases e; exact (kN _ (.tail _ (.tail _ (.tail _ (.head _))))).1) (hBk.trans kF.keep)) kF kN (.tail n3 (.tail n5 (.tail n6 (.head (List.forall_mem_cons.mpr ⟨Ne.symm n8, List.forall_mem_nil _⟩))))) (Nat.le_refl _) rfl ?hd ?hu ?hQ ?hE
  case hd => exact Nat.le_trans (Nat.succ_le_succ hroom) (by decide)
  case hu => exact Nat.le_trans (Nat.add_le_add_right hu 3) (by decide)
  case hQ => intro h1 tk gs oC' y t hy; cases hy
  intro h1 h2 tk2 gs2 oC2 e hk' hgo F2 N2 hK hne
  (try dsimp only at F2 N2 hne ⊢)
  refine note_first (LL := LL) (envL := envL) rfl (by intro z; cases z) hkL rfl hfL hne ⟨_, F2.ns⟩ ⟨_, hnsL h1 (N2 _ (.tail _ (.tail _ (.tail _ (.tail _ (.head _)))))).1⟩ ?_
  intro h3 T q1 q2 q3 hT nT nE
  have hl1 := (N2 _ (.tail _ (.tail _ (.tail _ (.tail _ (.head _))))))
  have F3 := Fr.mk (h₀ := h₀) (q2 _ F2.ns) (fun b o e => q1 b o (Nat.ne_of_lt (Nat.lt_of_lt_of_le (Heap.lt_size e) F2.above)) (fun z => by rw [z, hl1.2.2] at e; cases e) (F2.keep b o e)) F2.above
  obtain ⟨oL2, esL, epL, eL2, dL2, rL2⟩ := q3 mL (hnsL h1 hl1.1)
  have hT0 := hT
  obtain ⟨oe, vs, oT, ts, a1, a2, a3, a4, a5, a6, a7, a8⟩ := hT0
  have fr0 : ∀ b, h1.get? b = none → h₀.get? b = none := fun b hb => by
    cases z : h₀.get? b with
    | none => rfl
    | some o => rw [F2.keep _ _ z] at hb; cases hb
  have frL : ∀ b, h1.get? b = none → b ≠ L' := fun b hb z => by
    obtain ⟨oz, _, _, ez, _⟩ := F2.ns
    rw [z, ez] at hb; cases hb
  have up : ∀ {b : Addr} {ob : Obj}, b ≠ LL → h1.get? b = some ob ∧ b ≠ L' ∧ h₀.get? b = none → h3.get? b = some ob ∧ b ≠ L' ∧ h₀.get? b = none := fun n q => ⟨q1 _ _ q.2.1 n q.1, q.2⟩
  have N3 : News h₀ L' h3 [(x, { cls := .ref 68, dict := some dd, slots := #[some (.int 0 t0), some (.ref a), some (.int 1 t2), some (.int 1 t3), some (.int (-1) t4)] }), (dd, dictOf [] 0), (a, og), (C, oC2), (LL, oL2)] := by
    refine List.forall_mem_cons.mpr ⟨up n7 (N2 _ (.head _)), List.forall_mem_cons.mpr ⟨up n9 (N2 _ (.tail _ (.head _))), List.forall_mem_cons.mpr ⟨up n10 (N2 _ (.tail _ (.tail _ (.head _)))), List.forall_mem_cons.mpr ⟨up n8 (N2 _ (.tail _ (.tail _ (.tail _ (.head _))))), List.forall_mem_cons.mpr ⟨⟨eL2, hl1.2⟩, List.forall_mem_nil _⟩⟩⟩⟩⟩
  have neq : ∀ {b z : Addr} {ob : Obj}, h1.get? z = none → h1.get? b = some ob → b ≠ z := fun p q r => by rw [r, p] at q; cases q
  have hT6 : ∀ p ∈ [(x, { cls := .ref 68, dict := some dd, slots := #[some (.int 0 t0), some (.ref a), some (.int 1 t2), some (.int 1 t3), some (.int (-1) t4)] }), (dd, dictOf [] 0), (a, og), (C, oC2), (LL, oL2)], p.1 ≠ T :=
    List.forall_mem_cons.mpr ⟨neq nT (N2 _ (.head _)).1, List.forall_mem_cons.mpr ⟨neq nT (N2 _ (.tail _ (.head _))).1, List.forall_mem_cons.mpr ⟨neq nT (N2 _ (.tail _ (.tail _ (.head _)))).1, List.forall_mem_cons.mpr ⟨neq nT (N2 _ (.tail _ (.tail _ (.tail _ (.head _))))).1, List.forall_mem_cons.mpr ⟨neq nT hl1.1, List.forall_mem_nil _⟩⟩⟩⟩⟩
  have ne1 : x ≠ e := neq nE (N2 _ (.head _)).1
  have ne2 : x ≠ T := neq nT (N2 _ (.head _)).1
  have ne3 : LL ≠ e := neq nE hl1.1
  have ne4 : LL ≠ T := neq nT hl1.1
  have nLe := frL _ nE
  have nLT := frL _ nT
  have n0e := fr0 _ nE
  have n0T := fr0 _ nT
  clear F2 N2 fr0 frL up neq kF kN
  refine wpAny_handleBy_builtin (X := "StopIteration") (T := "BaseException") (b := true) (by rw [isSubtype_type]; kernel_rfl) (by rw [isSubtype_type]; kernel_rfl) (by rw [isSubtype_type]; kernel_rfl) ?_
  (refine' name_B F3 ?k1 ?k2 ?k3 ?k4 ?k5 ?_; (case k1 => k_asm); (case k2 => k_asm); (case k3 => k_is); (case k4 => boot_by_name); (case k5 => decide))
  refine ⟨rfl, hT.type, ?_⟩
  rw [if_pos rfl]
  refine setFlight_tr (f := none) hT fun h4 hT4 s4 => ?_
  have F4 := ksk_fr F3 s4 nLT n0T
  have N4 := ksk_news N3 s4 hT6
  obtain ⟨oe', vs', oT', ts', b1, b2, b3, b4, b5, b6, b7, b8⟩ := id hT4
  have N5 : News h₀ L' h4 ((e, oe') :: (T, oT') :: _) := List.forall_mem_cons.mpr ⟨⟨b1, nLe, n0e⟩, List.forall_mem_cons.mpr ⟨⟨b6, nLT, n0T⟩, N4⟩⟩
  clear F3 N3 N4 q1 q2 q3 hT s4 a1 a2 a3 a4 a6 a7 a8
  show wpAny _ _ _ _ _ _
  k_fold
  k_steps
  with_reducible rename Fr _ _ _ _ => F6
  with_reducible rename News _ _ _ _ => N6
  have hT6' : TrAt _ e T Value.none := TrAt.mk N6 b2 b3 b4 b5 b7 b8
  refine raise_bare (L := L') rfl hT6' rfl fun h7 hT7 s7 => ?_
  show wpAny _ _ (noteFrame _ _) _ _ _
  refine noteFrame_here hT7 rfl ?_
  refine cameBack_here (L := L') hT7 rfl fun h8 hT8 s8 => ?_
  show wpAny _ _ (leaving _ _) _ _ _
  refine leaving_here hT8 rfl fun h9 hT9 s9 => ?_
  have s79 := (s7.trans s8).trans s9
  have F9 := ksk_fr F6 s79 nLT n0T
  refine ⟨e, T, h9, _, gs2, rfl, rfl, hgo, F9.keep, hT9, n0e, ?_⟩
  exact ⟨oL2, esL, epL, (s79.2 _ ne4).trans (N6 _ (.tail _ (.tail _ (.tail _ (.tail _ (.tail _ (.tail _ (.head _)))))))).1, dL2, rL2⟩
end
end Mine
namespace Mine
/-- an iterator in a comprehension: the list S grows and the comprehension's own frame LL changes between two items -/
structure It2 (prog : Program) (w : World) (A : Around) (S LL : Addr) (I : Addr) (n : Nat) (P : Nat → Value → Prop) (St : Nat → Shared → Prop) (En : Shared → Prop) : Prop where
  frame : ∀ i (s : Shared) h' tk, St i s → (∀ b o, b ≠ S → b ≠ LL → s.heap.get? b = some o → h'.get? b = some o) → (∃ m, h'.Ns LL m) → St i { s with heap := h', toks := tk }
  item : ∀ i (s : Shared) (oS : Obj) (Q : Option Value → Shared → Prop) (E : Value → Shared → Prop), i < n → St i s → s.heap.get? S = some oS →
    (∀ v s', P i v → St (i + 1) s' → s'.heap.get? S = some oS → Q (some v) s') → wpAny (model prog w) A (pyNext (.ref I)) Q E s
  done : ∀ (s : Shared) (oS : Obj) (Q : Option Value → Shared → Prop) (E : Value → Shared → Prop), St n s → s.heap.get? S = some oS → (∀ s', En s' → s'.heap.get? S = some oS → Q none s') → wpAny (model prog w) A (pyNext (.ref I)) Q E s
  self : ∀ (s : Shared) (Q : Value → Shared → Prop) (E : Value → Shared → Prop), St 0 s → (∀ s', St 0 s' → (∀ oS, s.heap.get? S = some oS → s'.heap.get? S = some oS) → Q (.ref I) s') → wpAny (model prog w) A (pyIter (.ref I)) Q E s
  ns : ∀ i s, St i s → ∃ m, s.heap.Ns LL m
section
variable {w : World} {s : Shared} {mg mb : Str → Option Value} {mean : ExcName → Option Value} {d u : Nat} {gd : Option (List Code)} {envL : Env} {LL : Nat} {E : Value → Shared → Prop}
variable {hB : Heap} {x dd a C g k S Lw : Nat} {og oL : Obj} {ys : List Str} {mL : Str → Option Value}
structure ParSt2 (w : World) (hB : Heap) (s₀ : Shared) (S LL x dd a C g : Nat) (ys : List Str) (j : Nat) (s : Shared) : Prop where
  eq : ∃ h tk gs, s = { s₀ with heap := h, toks := tk, gens := gs } ∧ GenOnlyQ g s₀.gens gs
  keep : ∀ b o, b ≠ x → b ≠ C → b ≠ S → b ≠ LL → s₀.heap.get? b = some o → s.heap.get? b = some o
  isl : ∃ o, s.heap.get? x = some o ∧ IslSt dd a j o
  anc : AncAt w hB a g C ys (drawnN j) s
  nsL : ∃ m, s.heap.Ns LL m
inductive ParEn2 (s₀ : Shared) (S x dd a C g LL Lw : Nat) (mL : Str → Option Value) (s : Shared) : Prop
  | mk (h : Heap) (tk : Nat) (gs : Array GenState) (q0 : s = { s₀ with heap := h, toks := tk, gens := gs }) (q1 : GenOnlyQ g s₀.gens gs) (q2 : (∀ b o, b ≠ x → b ≠ dd → b ≠ a → b ≠ C → b ≠ S → b ≠ LL → b ≠ Lw → s₀.heap.get? b = some o → h.get? b = some o)) (q3 : (∃ m, h.Ns LL m)) (q4 : h.Ns Lw mL) : ParEn2 s₀ S x dd a C g LL Lw mL s
theorem par_it2 {s₀ : Shared} (X : (hd.heap_1 w.params).In hB) (T : Top topProg lg mean mg mb hB) (hk₀ : Kp hB s₀.heap)
    (hsz : hB.objs.size ≤ Lw) (hLB : hB.get? LL = none) (hx : hB.get? x = none) (hdn : hB.get? dd = none) (ha : hB.get? a = none) (hC : hB.get? C = none)
    (hod : s₀.heap.get? dd = some (dictOf [] 0)) (hoa : s₀.heap.get? a = some og) (hSB : hB.get? S = none) (hoL : s₀.heap.get? Lw = some oL) (hnsL : ∀ h : Heap, h.get? Lw = some oL → h.Ns Lw mL)
    (hkL : envL.scope.kind ≠ .module) (hfL : envL.frame = some Lw) 
    (hkm : ys.length ≤ 1000) (hroom : d ≤ 390) (hu : u ≤ 2900) (n1 : x ≠ dd) (n2 : x ≠ a) (n3 : x ≠ C) (n4 : dd ≠ a) (n5 : dd ≠ C) (n6 : a ≠ C) (n7 : x ≠ Lw) (n8 : C ≠ Lw) (n9 : dd ≠ Lw) (n10 : a ≠ Lw) (hSx : S ≠ x) (hSC : S ≠ C) (hSd : dd ≠ S) (hSa : a ≠ S) (hSL : Lw ≠ S) (m7 : x ≠ LL) (m8 : C ≠ LL) (m9 : dd ≠ LL) (m10 : a ≠ LL) (mSL : LL ≠ S) (mLL : Lw ≠ LL) :
    It2 prg w ⟨none, d, some [envL], gd, u⟩ S LL x (ys.length - 1) (fun i v => ∃ y t, ys[i + 1]? = some y ∧ v = .str y t) (ParSt2 w hB s₀ S LL x dd a C g ys) (ParEn2 s₀ S x dd a C g LL Lw mL) := by
  have hLwB : hB.get? Lw = none := by
    cases z : hB.get? Lw with
    | none => rfl
    | some o => exact absurd (Heap.lt_size z) (Nat.not_lt.mpr hsz)
  have base : ∀ {j s}, ParSt2 w hB s₀ S LL x dd a C g ys j s → Kp hB s.heap := fun st b o e => st.keep b o (fun z => by rw [z, hx] at e; cases e) (fun z => by rw [z, hC] at e; cases e) (fun z => by rw [z, hSB] at e; cases e) (fun z => by rw [z, hLB] at e; cases e) (hk₀ b o e)
  have od : ∀ {j s}, ParSt2 w hB s₀ S LL x dd a C g ys j s → s.heap.get? dd = some (dictOf [] 0) := fun st => st.keep _ _ n1.symm n5 hSd m9 hod
  have oa : ∀ {j s}, ParSt2 w hB s₀ S LL x dd a C g ys j s → s.heap.get? a = some og := fun st => st.keep _ _ n2.symm n6 hSa m10 hoa
  have ol : ∀ {j s}, ParSt2 w hB s₀ S LL x dd a C g ys j s → s.heap.get? Lw = some oL := fun st => st.keep _ _ n7.symm n8.symm hSL mLL hoL
  have fr : ∀ {j s}, ParSt2 w hB s₀ S LL x dd a C g ys j s → Fr hB Lw s.heap mL := fun st => ⟨hnsL _ (ol st), base st, hsz⟩
  have frame : ∀ i (s : Shared) h' tk, ParSt2 w hB s₀ S LL x dd a C g ys i s → (∀ b o, b ≠ S → b ≠ LL → s.heap.get? b = some o → h'.get? b = some o) → (∃ m, h'.Ns LL m) → ParSt2 w hB s₀ S LL x dd a C g ys i { s with heap := h', toks := tk } := by
    intro i s h' tk st k hm
    have hb := base st
    obtain ⟨⟨h, tk0, gs, rfl, hg⟩, kp, ⟨o, ho, hi⟩, hA, _⟩ := st
    obtain ⟨oC, hoC⟩ := hA.hasC
    exact ⟨⟨h', tk, gs, rfl, hg⟩, fun b o q1 q2 q3 q4 e => k b o q3 q4 (kp b o q1 q2 q3 q4 e), ⟨o, k _ _ hSx.symm m7 ho, hi⟩, hA.frame (fun o' e => k _ _ hSa m10 e) (fun o' e => k _ _ hSC.symm m8 e) (fun b o e => k b o (fun z => by rw [z, hSB] at e; cases e) (fun z => by rw [z, hLB] at e; cases e) (hb b o e)), hm⟩
  have hid : ∀ {j s}, ParSt2 w hB s₀ S LL x dd a C g ys j s → ∃ o oC, IslSt dd a j o ∧ Kp hB (hideAll s.heap [x, dd, a, C, Lw]) ∧ (∀ q ∈ [(x, o), (dd, dictOf [] 0), (a, og), (C, oC), (Lw, oL)], s.heap.get? q.1 = some q.2 ∧ (hideAll s.heap [x, dd, a, C, Lw]).get? q.1 = none) ∧ s.heap.get? x = some o := by
    intro j s st
    obtain ⟨o, ho, hi⟩ := st.isl
    obtain ⟨oC, hoC⟩ := st.anc.hasC
    refine ⟨o, oC, hi, fun b ob e => hideAll_get _ (base st b ob e) fun hm => ?_, ?_, ho⟩
    · rcases List.mem_cons.mp hm with z | hm
      · rw [z, hx] at e; cases e
      rcases List.mem_cons.mp hm with z | hm
      · rw [z, hdn] at e; cases e
      rcases List.mem_cons.mp hm with z | hm
      · rw [z, ha] at e; cases e
      rcases List.mem_cons.mp hm with z | hm
      · rw [z, hC] at e; cases e
      · rw [List.mem_singleton.mp hm, hLwB] at e; cases e
    · refine List.forall_mem_cons.mpr ⟨⟨ho, hideAll_none _ (.head _)⟩, List.forall_mem_cons.mpr ⟨⟨od st, hideAll_none _ (.tail _ (.head _))⟩, List.forall_mem_cons.mpr ⟨⟨oa st, hideAll_none _ (.tail _ (.tail _ (.head _)))⟩, List.forall_mem_cons.mpr ⟨⟨hoC, hideAll_none _ (.tail _ (.tail _ (.tail _ (.head _))))⟩, List.forall_mem_cons.mpr ⟨⟨ol st, hideAll_none _ (.tail _ (.tail _ (.tail _ (.tail _ (.head _)))))⟩, List.forall_mem_nil _⟩⟩⟩⟩⟩
  refine ⟨frame, ?_, ?_, ?_, ?_⟩
  · intro i s oS Q E hi st hS hQ
    have hk1 : 1 ≤ ys.length := Nat.lt_of_lt_of_le (Nat.zero_lt_of_lt hi) (Nat.sub_le ys.length 1)
    obtain ⟨o, oC, hI, kH, NH, ho⟩ := hid st
    have hF := fr st
    have hSH : (hideAll s.heap [x, dd, a, C, Lw]).get? S = some oS := hideAll_get _ hS (by simp [hSx, hSd.symm, hSa.symm, hSC, hSL.symm])
    refine owit_next (f := 64) hF X (hI.inst ho (od st)) ?hs ?hf ?_
    case hs => k_is
    case hf => k_is
    have fin : ∀ kk, drawnN (i + 1) = kk + 1 → ys[kk]? = ys[i + 1]? → (∀ o, IslObj dd (.ref a) ((kk + 1 : Nat) : Int) ((kk + 1 : Nat) : Int) o → IslSt dd a (i + 1) o) → ∀ r s', IslItem w hB x dd a C g Lw oL og ys kk (hideAll s.heap [x, dd, a, C, Lw]) s r s' → wants (fun v s' => Q (some v) s') (OwitStop (model prg w) ⟨none, d, some [envL], gd, u⟩ Q E) r s' := by
      intro kk e1 e2 e3 r s' hr
      obtain ⟨y, t, h', tk, gs, o', hy, rfl, rfl, hgo, kp', hx', hI', hA', hd', hL', ha'⟩ := hr
      refine hQ _ _ ⟨y, t, e2 ▸ hy, rfl⟩ ⟨?_, ?_, ⟨o', hx', e3 _ hI'⟩, e1 ▸ hA', ?_⟩ (kp' _ _ hSH)
      · obtain ⟨⟨h, tk0, gs0, rfl, hg⟩, _, _, _, _⟩ := st
        exact ⟨h', tk, gs, rfl, hg.trans hgo⟩
      · intro b ob q1 q2 q3 q4 e
        by_cases z1 : b = dd
        · subst z1; rw [hod] at e; cases e; exact hd'
        by_cases z2 : b = a
        · subst z2; rw [hoa] at e; cases e; exact ha'
        by_cases z3 : b = Lw
        · subst z3; rw [hoL] at e; cases e; exact hL'
        exact kp' _ _ (hideAll_get _ (st.keep b ob q1 q2 q3 q4 e) (by simp [q1, q2, z1, z2, z3]))
      · obtain ⟨m, oN, es, ep, e, r⟩ := st.nsL
        exact ⟨m, oN, es, ep, kp' _ _ (hideAll_get _ e (by simp [m7.symm, m8.symm, m9.symm, m10.symm, mLL.symm])), r⟩
    cases i with
    | zero => exact wpAny_call (codeAny_mono (isl_any (oL := oL) (X.keeps kH) (T.keeps kH) kH (fun b o e => of_hideAll _ e) (Nat.le_of_eq (hideAll_size _ _)) NH hI st.anc (j := 1) (.inl ⟨rfl, rfl, rfl, rfl⟩) hk1 hk1 hkm n9 n10 hkL hfL hnsL hroom (by first | exact Nat.add_lt_of_lt_sub hi | exact Nat.le_of_lt (Nat.add_lt_of_lt_sub hi) | exact Nat.le_trans hu (by decide) | exact Nat.le_trans (Nat.add_le_add_right hu 1) (by decide) | exact Nat.le_trans (Nat.add_le_add_right hu 2) (by decide) | omega) n1 n2 n3 n4 n5 n6 n7 n8) fun r s' q => fin 1 rfl rfl (fun o h => h) r s' (q.1 (show 1 < ys.length from by first | exact Nat.lt_of_sub_pos hi | omega)))
    | succ j =>
      exact wpAny_call (codeAny_mono (isl_any (k := j + 2) (j := j + 2) (oL := oL) (X.keeps kH) (T.keeps kH) kH (fun b o e => of_hideAll _ e) (Nat.le_of_eq (hideAll_size _ _)) NH hI st.anc (.inr ⟨rfl, rfl, rfl⟩) hk1 (by first | exact Nat.add_lt_of_lt_sub hi | exact Nat.le_of_lt (Nat.add_lt_of_lt_sub hi) | exact Nat.le_trans hu (by decide) | exact Nat.le_trans (Nat.add_le_add_right hu 1) (by decide) | exact Nat.le_trans (Nat.add_le_add_right hu 2) (by decide) | omega) hkm n9 n10 hkL hfL hnsL hroom (by first | exact Nat.add_lt_of_lt_sub hi | exact Nat.le_of_lt (Nat.add_lt_of_lt_sub hi) | exact Nat.le_trans hu (by decide) | exact Nat.le_trans (Nat.add_le_add_right hu 1) (by decide) | exact Nat.le_trans (Nat.add_le_add_right hu 2) (by decide) | omega) n1 n2 n3 n4 n5 n6 n7 n8) fun r s' q => fin (j + 2) rfl rfl (fun o h => h) r s' (q.1 (by first | exact Nat.add_lt_of_lt_sub hi | exact Nat.le_of_lt (Nat.add_lt_of_lt_sub hi) | exact Nat.le_trans hu (by decide) | exact Nat.le_trans (Nat.add_le_add_right hu 1) (by decide) | exact Nat.le_trans (Nat.add_le_add_right hu 2) (by decide) | omega)))
  · intro s oS Q E st hS hQ
    obtain ⟨o, oC, hI, kH, NH, ho⟩ := hid st
    have hF := fr st
    have hSH : (hideAll s.heap [x, dd, a, C, Lw]).get? S = some oS := hideAll_get _ hS (by simp [hSx, hSd.symm, hSa.symm, hSC, hSL.symm])
    refine owit_next (f := 64) hF X (hI.inst ho (od st)) ?hs1 ?hf1 ?_
    case hs1 => k_is
    case hf1 => k_is
    have fin : ∀ r s', IslStop g Lw mL (hideAll s.heap [x, dd, a, C, Lw]) s r s' → wants (fun v s' => Q (some v) s') (OwitStop (model prg w) ⟨none, d, some [envL], gd, u⟩ Q E) r s' := by
      intro r s' hr
      obtain ⟨e, T, h', tk, gs, rfl, rfl, hgo, kp', hT, _, hns⟩ := hr
      refine wpAny_isInstance (b := true) hT.type isSubtype_stop ?_
      rw [if_pos rfl]
      refine hQ _ ?_ (kp' _ _ hSH)
      refine ⟨h', tk, gs, ?_, ?_, ?_, ?_, hns⟩
      · obtain ⟨⟨h, tk0, gs0, rfl, hg⟩, _, _, _, _⟩ := st
        rfl
      · obtain ⟨⟨h, tk0, gs0, rfl, hg⟩, _, _, _, _⟩ := st
        exact hg.trans hgo
      · intro b ob q1 q2 q3 q4 q5 q6 q7 e
        exact kp' _ _ (hideAll_get _ (st.keep b ob q1 q4 q5 q6 e) (by simp [q1, q2, q3, q4, q7]))
      · obtain ⟨m, oN, es, ep, e, r⟩ := st.nsL
        exact ⟨m, oN, es, ep, kp' _ _ (hideAll_get _ e (by simp [m7.symm, m8.symm, m9.symm, m10.symm, mLL.symm])), r⟩
    generalize hn : ys.length - 1 = n at st hI
    cases n with
    | zero =>
      rcases Nat.eq_zero_or_pos ys.length with z | hk1
      · obtain rfl : ys = [] := List.eq_nil_of_length_eq_zero z
        exact wpAny_call (codeAny_mono (isl_none (oL := oL) (X.keeps kH) (T.keeps kH) kH (fun b o e => of_hideAll _ e) (Nat.le_of_eq (hideAll_size _ _)) NH hI st.anc n9 n10 hkL hfL hnsL hroom (by first | exact Nat.add_lt_of_lt_sub hi | exact Nat.le_of_lt (Nat.add_lt_of_lt_sub hi) | exact Nat.le_trans hu (by decide) | exact Nat.le_trans (Nat.add_le_add_right hu 1) (by decide) | exact Nat.le_trans (Nat.add_le_add_right hu 2) (by decide) | omega) n1 n2 n3 n4 n5 n6 n7 n8) fin)
      · exact wpAny_call (codeAny_mono (isl_any (oL := oL) (X.keeps kH) (T.keeps kH) kH (fun b o e => of_hideAll _ e) (Nat.le_of_eq (hideAll_size _ _)) NH hI st.anc (j := 1) (.inl ⟨rfl, rfl, rfl, rfl⟩) hk1 hk1 hkm n9 n10 hkL hfL hnsL hroom (by first | exact Nat.add_lt_of_lt_sub hi | exact Nat.le_of_lt (Nat.add_lt_of_lt_sub hi) | exact Nat.le_trans hu (by decide) | exact Nat.le_trans (Nat.add_le_add_right hu 1) (by decide) | exact Nat.le_trans (Nat.add_le_add_right hu 2) (by decide) | omega) n1 n2 n3 n4 n5 n6 n7 n8) fun r s' q => fin r s' (q.2 (show 1 = ys.length by omega)))
    | succ j =>
      have hk1 : 1 ≤ ys.length := by omega
      exact wpAny_call (codeAny_mono (isl_any (k := j + 2) (j := j + 2) (oL := oL) (X.keeps kH) (T.keeps kH) kH (fun b o e => of_hideAll _ e) (Nat.le_of_eq (hideAll_size _ _)) NH hI st.anc (.inr ⟨rfl, rfl, rfl⟩) hk1 (by first | exact Nat.add_lt_of_lt_sub hi | exact Nat.le_of_lt (Nat.add_lt_of_lt_sub hi) | exact Nat.le_trans hu (by decide) | exact Nat.le_trans (Nat.add_le_add_right hu 1) (by decide) | exact Nat.le_trans (Nat.add_le_add_right hu 2) (by decide) | omega) hkm n9 n10 hkL hfL hnsL hroom (by first | exact Nat.add_lt_of_lt_sub hi | exact Nat.le_of_lt (Nat.add_lt_of_lt_sub hi) | exact Nat.le_trans hu (by decide) | exact Nat.le_trans (Nat.add_le_add_right hu 1) (by decide) | exact Nat.le_trans (Nat.add_le_add_right hu 2) (by decide) | omega) n1 n2 n3 n4 n5 n6 n7 n8) fun r s' q => fin r s' (q.2 (by first | exact Nat.add_lt_of_lt_sub hi | exact Nat.le_of_lt (Nat.add_lt_of_lt_sub hi) | exact Nat.le_trans hu (by decide) | exact Nat.le_trans (Nat.add_le_add_right hu 1) (by decide) | exact Nat.le_trans (Nat.add_le_add_right hu 2) (by decide) | omega)))
  · intro s Q E st hQ
    obtain ⟨o, ho, hi⟩ := st.isl
    have hF := fr st
    refine owit_iter (f := 57) hF X (hi.inst ho (od st)) ?hs3 ?hf3 ?_
    case hs3 => k_is
    case hf3 => k_is
    refine wpAny_call (codeAny_mono (isl_iter (X.keeps (base st)) (T.keeps (base st)) hroom (by first | exact Nat.add_lt_of_lt_sub hi | exact Nat.le_of_lt (Nat.add_lt_of_lt_sub hi) | exact Nat.le_trans hu (by decide) | exact Nat.le_trans (Nat.add_le_add_right hu 1) (by decide) | exact Nat.le_trans (Nat.add_le_add_right hu 2) (by decide) | omega)) fun r s' hr => ?_)
    obtain ⟨h', tk, rfl, rfl, kp⟩ := hr
    have st' := frame 0 s h' tk st (fun b o _ _ e => kp b o e) (by obtain ⟨m, oL, es, ep, e, r⟩ := st.nsL; exact ⟨m, oL, es, ep, kp _ _ e, r⟩)
    have hG := fr st'
    refine owit_it (g := .ref 64) hG X (hi.inst (kp _ _ ho) (od st')) ?hs2 (hQ _ st' fun oS e => kp _ _ e)
    case hs2 => k_is
  · exact fun i s st => st.nsL
end
end Mine
namespace Mine
section
variable {w : World} {A : Around} {E : Value → Shared → Prop} {R : Result → Shared → Prop} {s : Shared}
/-- what an inner source tells: an iterator of the program's own -/
inductive Inn (w : World) (A : Around) (cenv : Env) (J : Nat → Array Value → Shared → Prop) (I D : Addr) (oI oD : Obj) (i : Nat) (acc : Array Value) (x1 : Str) (elt : Expr) (xv : Value) (s₄ : Shared) : Prop
  | mk (X : Addr) (n : Nat) (P Y : Nat → Value → Prop) (St : Nat → Shared → Prop) (En : Shared → Prop) (e : xv = .ref X) (V : It2 prg w A D cenv.locals X n P St En) (hn : n ≤ 1000) (h0 : St 0 s₄) (hD : s₄.heap.get? D = some oD)
    (hE : ∀ s', En s' → s'.heap.get? I = some oI ∧ ∃ m, s'.heap.Ns cenv.locals m)
    (he : ∀ k v s' oD' E', k < n → P k v → St (k + 1) s' → s'.heap.get? D = some oD' → (∃ m, s'.heap.Ns cenv.locals m ∧ m x1 = some v) → wpAny (model prg w) A (eval elt cenv) (fun y s'' => Y k y ∧ St (k + 1) s'' ∧ s''.heap.get? D = some oD') E' s')
    (hd : ∀ outs s', En s' → outs.size = n → (∀ k, k < n → ∃ y, outs[k]? = some y ∧ Y k y) → J (i + 1) (acc ++ outs) s') : Inn w A cenv J I D oI oD i acc x1 elt xv s₄
theorem comp2I_loop {elt i0 i1 : Expr} {x0 x1 : Str} {px0 px1 : Pos} {scope : Scope} {pos : Pos} {I D l : Addr} {cenv : Env} {items : Array Value} (hh : A.handled = none) (hx0 : cenv.kindOf x0 = some .local) (hx1 : cenv.kindOf x1 = some .local)
    (hp : (cenv.scope.kind == .class || (cenv.scope.kind == .module && cenv.locals != cenv.globals)) = false) (hDC : D ≠ cenv.locals) (hID : I ≠ D) (hIC : I ≠ cenv.locals) (hlI : l ≠ I)
    (J : Nat → Array Value → Shared → Prop)
    (hfr : ∀ i acc s' h' tk, J i acc s' → (∀ b o, b ≠ I → b ≠ D → b ≠ cenv.locals → s'.heap.get? b = some o → h'.get? b = some o) → J i acc { s' with heap := h', toks := tk })
    (hJl : ∀ i acc s', J i acc s' → s'.heap.IsList l items) (h0 : J 0 #[] s) (hI : s.heap.IsListIter I l 0) (hD : s.heap.get? D = some (listOf #[] 0)) (hn : ∃ m, s.heap.Ns cenv.locals m)
    (turn : ∀ i v acc s₃ oI oD oC E', items[i]? = some v → J i acc s₃ → s₃.heap.get? I = some oI → s₃.heap.get? D = some oD → s₃.heap.get? cenv.locals = some oC → (∀ h : Heap, h.get? cenv.locals = some oC → ∃ m, h.Ns cenv.locals m ∧ m x0 = some v) →
      wpAny (model prg w) A (eval i1 cenv) (Inn w A cenv J I D oI oD i acc x1 elt) E' s₃)
    (hR : ∀ acc c s', J items.size acc s' → s'.heap.get? D = some (listOf acc c) → (∃ m, s'.heap.Ns cenv.locals m) → R (.ok .next) s') (hit : items.size ≤ 1000) (hs : ∀ x, foldedSetIterable i1 cenv x = pure x := by intro _; rfl) :
    codeAny (model prg w) A (.compLoop (twoC elt (.Name x0 px0) (.Name x1 px1) i0 i1 scope pos) 0 (.ref I) (.ref D) cenv) R s := by
  have W := Walks.list (prog := prg) (w := w) hh I l hlI items
  refine two_outer (fun k s' => ∃ i acc c, J i acc s' ∧ s'.heap.IsListIter I l i ∧ s'.heap.get? D = some (listOf acc c) ∧ (∃ m, s'.heap.Ns cenv.locals m) ∧ acc.size ≤ 1000 * i ∧ i ≤ items.size ∧ k = items.size + 1 - i) ?_ (items.size + 1)
    ⟨0, #[], 0, h0, hI, hD, hn, Nat.le_refl _, Nat.zero_le _, rfl⟩ (hs := hs)
  rintro k s' ⟨i, acc, c, hJ, hIt, hDa, ⟨mm, hns⟩, hac, hi, rfl⟩
  by_cases hlt : i < items.size
  · refine W.item i _ _ _ hlt ⟨hIt, hJl _ _ _ hJ⟩ fun v h' tk hv st hk' => ?_
    have hk' : ∀ b o, b ≠ I → s'.heap.get? b = some o → h'.get? b = some o := fun b o hb e => hk' b o (fun z => hb (List.mem_singleton.mp z)) e
    have hns' : h'.Ns cenv.locals mm := by obtain ⟨o, es, ep, e1, r⟩ := hns; exact ⟨o, es, ep, hk' _ _ hIC.symm e1, r⟩
    refine wpAny_assign_Name (wpAny_storeName_local hx0 hns' (fun h₂ hn₂ hs₂ => ?_) hp)
    obtain ⟨oI, hoI, hI2⟩ := st.1
    obtain ⟨oC, es, ep, hoC, hC2⟩ := hn₂
    have hJ₂ := hfr i acc s' h₂ (tk + 1) hJ fun b o q1 q2 q3 e => hs₂.extBut b o q3 (hk' b o q1 e)
    have hD₂ : h₂.get? D = some (listOf acc c) := hs₂.extBut _ _ hDC (hk' _ _ hID.symm hDa)
    have hI₂ : h₂.get? I = some oI := hs₂.extBut _ _ hIC hoI
    refine wpAny_mono (turn i v acc _ oI _ oC _ hv hJ₂ hI₂ hD₂ hoC (fun h e => ⟨_, ⟨oC, es, ep, e, hC2⟩, if_pos rfl⟩)) (fun xv s₅ h₅ => ?_) fun _ _ z => z
    obtain ⟨X, n, P, Y, St, En, rfl, V, hn1, hst, hD5, hEn, helt, hend⟩ := h₅
    refine V.self _ _ _ hst fun s₆ hst6 hD6 => ?_
    have hD7 := hD6 _ hD5
    have loop : ∀ s₇ c₇, St 0 s₇ → s₇.heap.get? D = some (listOf acc c₇) → codeAny (model prg w) A (.compLoop (twoC elt (.Name x0 px0) (.Name x1 px1) i0 i1 scope pos) 1 (.ref X) (.ref D) cenv) (fun r s' => match r with | .ok _ => ∃ m_1, m_1 < items.size + 1 - i ∧ ∃ i acc c, J i acc s' ∧ s'.heap.IsListIter I l i ∧ s'.heap.get? D = some (listOf acc c) ∧ (∃ m, s'.heap.Ns cenv.locals m) ∧ acc.size ≤ 1000 * i ∧ i ≤ items.size ∧ m_1 = items.size + 1 - i | .error e => cameBackBy (model prg w) A cenv (notedBy (model prg w) A cenv fun e s' => R (.error e) s') e s') s₇ := by
      intro s₇ c₇ hst7 hD7
      refine two_inner (fun k s'' => ∃ j c outs, St j s'' ∧ s''.heap.get? D = some (listOf (acc ++ outs) c) ∧ outs.size = j ∧ (∀ k, k < j → ∃ y, outs[k]? = some y ∧ Y k y) ∧ j ≤ n ∧ k = n + 1 - j) ?_ (n + 1)
        ⟨0, c₇, #[], hst7, by simpa using hD7, rfl, fun k hk => absurd hk (Nat.not_lt_zero _), Nat.zero_le _, rfl⟩
      rintro k s'' ⟨j, c', outs, hSj, hDj, hoj, hYj, hjn, rfl⟩
      by_cases hjl : j < n
      · refine V.item j _ _ _ _ hjl hSj hDj fun y s₈ hP8 hS8 hD8 => ?_
        obtain ⟨m8, hC8⟩ := V.ns _ _ hS8
        refine wpAny_assign_Name (wpAny_storeName_local hx1 hC8 (fun h9 hn9 hs9 => ?_) hp)
        have hS9 := V.frame _ _ h9 (s₈.toks + 1) hS8 (fun b o _ q e => hs9.extBut b o q e) ⟨_, hn9⟩
        refine wpAny_mono (helt j y _ _ _ hjl hP8 hS9 (hs9.extBut _ _ hDC hD8) ⟨_, hn9, if_pos rfl⟩) (fun z s₁₀ h₁₀ => ?_) fun _ _ z => z
        obtain ⟨hY, hS10, hD10⟩ := h₁₀
        obtain ⟨m10, o10, es10, ep10, e10, r10⟩ := V.ns _ _ hS10
        refine append_at (hsz := by rw [sizeLine_eq]; simp only [Array.size_append]; omega) hD10 fun h11 hs11 hD11 => ?_
        refine ⟨n + 1 - (j + 1), by omega, j + 1, c' + 1, outs.push z, V.frame _ _ h11 s₁₀.toks hS10 (fun b o q _ e => hs11.extBut b o q e) ⟨m10, o10, es10, ep10, hs11.extBut _ _ hDC.symm e10, r10⟩, ?_, by rw [Array.size_push, hoj], fun k hk => ?_, hjl, rfl⟩
        · rw [hD11, Array.push_append]
        · by_cases hkj : k < j
          · obtain ⟨y', e1, e2⟩ := hYj k hkj
            exact ⟨y', by rw [Array.getElem?_push_lt (by omega)]; rw [← e1, Array.getElem?_eq_getElem (by omega)], e2⟩
          · obtain rfl : k = j := by omega
            exact ⟨z, by rw [← hoj]; exact Array.getElem?_push_size, hY⟩
      · obtain rfl : j = n := by omega
        refine V.done _ _ _ _ hSj hDj fun s₈ hE8 hD8 => ?_
        obtain ⟨hI8, hC8⟩ := hEn _ hE8
        exact ⟨items.size + 1 - (i + 1), by omega, i + 1, acc ++ outs, c', hend _ _ hE8 hoj hYj, ⟨oI, hI8, hI2⟩, hD8, hC8, by rw [Array.size_append]; omega, hlt, rfl⟩
    refine two_start (loop _ _ hst6 hD7) ?_
    exact V.self _ _ _ hst6 fun s₈ hst8 hD8 => loop _ _ hst8 (hD8 _ hD7)
  · obtain rfl : i = items.size := by omega
    refine W.done _ _ _ ⟨hIt, hJl _ _ _ hJ⟩ fun h' tk hk' => ?_
    have hk' : ∀ b o, b ≠ I → s'.heap.get? b = some o → h'.get? b = some o := fun b o hb e => hk' b o (fun z => hb (List.mem_singleton.mp z)) e
    refine hR acc c _ (hfr _ acc s' h' tk hJ fun b o q1 q2 q3 e => hk' b o q1 e) (hk' _ _ hID.symm hDa) ⟨mm, ?_⟩
    obtain ⟨o, es, ep, e1, r⟩ := hns
    exact ⟨o, es, ep, hk' _ _ hIC.symm e1, r⟩
variable {env : Env}
theorem comp2I_at {elt i0 i1 : Expr} {x0 x1 : Str} {px0 px1 : Pos} {scope : Scope} {cl : List (Str × Addr)} {pos : Pos} {Q : Value → Shared → Prop} {l I D C : Addr} {items : Array Value}
    (hII : I = s.heap.objs.size) (hDD : D = s.heap.objs.size + 1) (hCC : C = s.heap.objs.size + 2) (hh : A.handled = none)
    (hcell : ∀ y ∈ scope.names, y.2 ≠ .cell) (hkind : scope.kind = .function) (hx0 : scope.names.lookup x0 = some .local) (hx1 : scope.names.lookup x1 = some .local) (hl : s.heap.IsList l items)
    (J : Nat → Array Value → Shared → Prop)
    (hfr : ∀ i acc s' h' tk, J i acc s' → (∀ b o, b ≠ I → b ≠ D → b ≠ C → s'.heap.get? b = some o → h'.get? b = some o) → J i acc { s' with heap := h', toks := tk })
    (hJl : ∀ i acc s', J i acc s' → s'.heap.IsList l items) (h0 : J 0 #[] s)
    (turn : ∀ i v acc s₃ oI oD oC E', items[i]? = some v → J i acc s₃ → s₃.heap.get? I = some oI → s₃.heap.get? D = some oD → s₃.heap.get? C = some oC → (∀ h : Heap, h.get? C = some oC → ∃ m, h.Ns C m ∧ m x0 = some v) →
      wpAny (model prg w) A (eval i1 (compEnvC scope cl C env)) (Inn w A (compEnvC scope cl C env) J I D oI oD i acc x1 elt) E' s₃)
    (hQ : ∀ acc c s', J items.size acc s' → s'.heap.get? D = some (listOf acc c) → (∃ m, s'.heap.Ns C m) → compPost (model prg w) A E none Q (.ref D) C (.ok .next) s') (hsz : items.size ≤ 1000) (hs : ∀ x, foldedSetIterable i1 (compEnvC scope cl C env) x = pure x := by intro _; rfl) :
    CompSt2 prg w A E env (twoC elt (.Name x0 px0) (.Name x1 px1) i0 i1 scope pos) scope cl Q (.ref l) s := by
  obtain ⟨ol, hol, rl⟩ := id hl
  have hne : l ≠ I := by rw [hII]; exact Nat.ne_of_lt (Heap.lt_size hol)
  unfold CompSt2
  refine wpAny_pyIter_list hl ?_
  refine wpAny_newObj_type (wpAny_newFunctionEnv hcell (by intro y hy; simp at hy) (fun h₁ hns₁ hsb₁ => ?_) hkind)
  dsimp only at hns₁ hsb₁ ⊢
  generalize hH1 : s.heap.push { cls := .type "list_iterator", data := .fields #[.ref l, .int 0 0] } = H1 at hns₁ hsb₁ ⊢
  have s1 : H1.objs.size = s.heap.objs.size + 1 := by rw [← hH1, Heap.size_push]
  generalize hH2 : H1.push { cls := .type "list", dict := none, data := .seq ([] : List Value).toArray } = H2 at hns₁ hsb₁ ⊢
  have s2 : H2.objs.size = s.heap.objs.size + 2 := by rw [← hH2, Heap.size_push, s1]
  rw [s2, ← hCC] at hns₁ hsb₁ ⊢
  rw [s1, ← hDD, ← hII]
  have k1 : ∀ b o, s.heap.get? b = some o → H2.get? b = some o := fun b o e => hH2 ▸ Heap.get?_push_of_some _ (hH1 ▸ Heap.get?_push_of_some _ e)
  have below : ∀ b, b < s.heap.objs.size → b ≠ C := fun b hb => by rw [hCC]; exact Nat.ne_of_lt (Nat.lt_trans hb (Nat.lt_trans (Nat.lt_succ_self _) (Nat.lt_succ_self _)))
  have old : ∀ b o, s.heap.get? b = some o → h₁.get? b = some o := fun b o e => hsb₁.extBut b o (below b (Heap.lt_size e)) (Heap.get?_push_of_some _ (k1 b o e))
  have hDne : D ≠ C := by rw [hDD, hCC]; exact Nat.ne_of_lt (Nat.lt_succ_self _)
  have hIne : I ≠ C := by rw [hII, hCC]; exact Nat.ne_of_lt (Nat.lt_succ_of_lt (Nat.lt_succ_self _))
  have hIDne : I ≠ D := by rw [hII, hDD]; exact Nat.ne_of_lt (Nat.lt_succ_self _)
  have hD1 : h₁.get? D = some (listOf #[] 0) := hsb₁.extBut _ _ hDne (Heap.get?_push_of_some _ (by rw [hDD, ← s1, ← hH2]; exact Heap.get?_push_size _ rfl))
  have hI1 : h₁.IsListIter I l 0 := ⟨_, hsb₁.extBut _ _ hIne (Heap.get?_push_of_some _ (by rw [← hH2]; exact Heap.get?_push_of_some _ (by rw [← hH1, hII]; exact Heap.get?_push_size _ rfl))), rfl, rfl⟩
  have loop : ∀ s₃ : Shared, s₃ = { s with heap := h₁, toks := s.toks + ([] : List (Str × Value)).length } →
      codeAny (model prg w) A (.compLoop (twoC elt (.Name x0 px0) (.Name x1 px1) i0 i1 scope pos) 0 (.ref I) (.ref D) (compEnvC scope cl C env)) (compPost (model prg w) A E none Q (.ref D) C) s₃ := by
    rintro s₃ rfl
    exact comp2I_loop (cenv := compEnvC scope cl C env) hh (lookup_relabel_local hx0) (lookup_relabel_local hx1) (by simp [compEnvC, relabel, hkind]) hDne hIDne hIne hne J hfr hJl (hfr _ _ _ _ _ h0 fun b o _ _ _ e => old b o e) hI1 hD1 ⟨_, hns₁⟩ turn hQ hsz hs
  exact codeAny_compStart_list (loop _ rfl) (wpAny_pyIter_listiter (l := l) (i := 0) hI1 (loop _ rfl))
end
end Mine
namespace Mine
noncomputable def lkS (w : World) {name qual : Str} {params : Arguments} {body : List Stmt} {scope : Scope} {dV kV doc pm cdv ct oc : Value} {an od : Option Addr} {osl : Array (Option Value)} (_ : (hd.heap_1 w.params).lookup 198 = some ⟨oc, od, .func (fnOf name qual params body scope dV kV doc pm an cdv ct), osl⟩) : List Stmt × Scope := (body, scope)
/-- the law's statements and scope -/
noncomputable def lawP (w : World) : List Stmt × Scope := by
  refine' lkS w ?h
  case h => k_is
noncomputable def scS (P : List Stmt × Scope) {b : List Stmt} {c : Scope} (_ : P = (b, c)) : Scope := c
noncomputable def idS (L : List Stmt) {a : Stmt} {l : List Stmt} (_ : L = a :: l) : List Stmt := a :: l
noncomputable def fbS (L : List Stmt) {t : Expr} {it : Expr} {b o : List Stmt} {p : Pos} {l : List Stmt} (_ : L = .For t it b o p :: l) : List Stmt := b
noncomputable def ibS (L : List Stmt) {t : Expr} {b o : List Stmt} {p : Pos} {l : List Stmt} (_ : L = .If t b o p :: l) : List Stmt := b
noncomputable def ioS (L : List Stmt) {t : Expr} {b o : List Stmt} {p : Pos} {l : List Stmt} (_ : L = .If t b o p :: l) : List Stmt := o
noncomputable def lawSc (w : World) : Scope := scS (lawP w) rfl
noncomputable def law0 (w : World) : List Stmt := idS (lawP w).1 rfl
noncomputable def lawB (w : World) : List Stmt := fbS (lawP w).1.tail.tail.tail.tail rfl
noncomputable def act0 (w : World) : List Stmt := ibS (lawB w).tail.tail rfl
noncomputable def o0 (w : World) : List Stmt := ioS (lawB w).tail.tail rfl
noncomputable def act1 (w : World) : List Stmt := ibS (o0 w) rfl
noncomputable def o1 (w : World) : List Stmt := ioS (o0 w) rfl
noncomputable def act3 (w : World) : List Stmt := ibS (o1 w) rfl
noncomputable def o3 (w : World) : List Stmt := ioS (o1 w) rfl
noncomputable def act5 (w : World) : List Stmt := ibS (o3 w) rfl
noncomputable def o5 (w : World) : List Stmt := ioS (o3 w) rfl
noncomputable def act6 (w : World) : List Stmt := ibS (o5 w) rfl
noncomputable def act7 (w : World) : List Stmt := ioS (o5 w) rfl
noncomputable def actC (w : World) : List Stmt := idS (lawB w).tail.tail.tail rfl
noncomputable abbrev lawE (w : World) (L fa : Addr) (cd : Value) : Env := envOfC (Str.ofString "law") (lawSc w) L fa cd
noncomputable abbrev mmL (sc : Addr) (told hav num act rest mis : Option Value) : Str → Option Value := fun z =>
  if z = Str.ofString "told" then told else if z = Str.ofString "have" then hav else if z = Str.ofString "number" then num else if z = Str.ofString "act" then act else if z = Str.ofString "rest" then rest else if z = Str.ofString "missing" then mis else
  if z = Str.ofString "script" then some (.ref sc) else none
theorem canonL {h₀ h : Heap} {L sc : Addr} {m : Str → Option Value} {told hav num act rest mis : Option Value} (F : Fr h₀ L h m)
    (e1 : ∀ x ∈ [Str.ofString "told", Str.ofString "have", Str.ofString "number", Str.ofString "act", Str.ofString "rest", Str.ofString "missing", Str.ofString "script"], m x = mmL sc told hav num act rest mis x)
    (e2 : ∀ z, z ≠ Str.ofString "told" → z ≠ Str.ofString "have" → z ≠ Str.ofString "number" → z ≠ Str.ofString "act" → z ≠ Str.ofString "rest" → z ≠ Str.ofString "missing" → z ≠ Str.ofString "script" → m z = none) : Fr h₀ L h (mmL sc told hav num act rest mis) := by
  refine canonN _ F e1 fun z hz => ?_
  simp only [List.mem_cons, not_or] at hz
  obtain ⟨z1, z2, z3, z4, z5, z6, z7, _⟩ := hz
  rw [e2 z z1 z2 z3 z4 z5 z6 z7]
  simp only [mmL, if_neg z1, if_neg z2, if_neg z3, if_neg z4, if_neg z5, if_neg z6, if_neg z7]
theorem mmL_told {sc : Addr} {told hav num act rest mis v : Option Value} : (fun y => if y = Str.ofString "told" then v else mmL sc told hav num act rest mis y) = mmL sc v hav num act rest mis := by
  funext y
  by_cases h : y = Str.ofString "told"
  · subst h; with_unfolding_all rfl
  · simp only [mmL, if_neg h]
theorem set_told {h₀ h : Heap} {L sc : Addr} {m : Str → Option Value} {told hav num act rest mis v : Option Value} (F : Fr h₀ L h (fun y => if y = Str.ofString "told" then v else m y)) (e : m = mmL sc told hav num act rest mis) : Fr h₀ L h (mmL sc v hav num act rest mis) := by
  subst e
  rw [mmL_told] at F
  exact F
theorem mmL_have {sc : Addr} {told hav num act rest mis v : Option Value} : (fun y => if y = Str.ofString "have" then v else mmL sc told hav num act rest mis y) = mmL sc told v num act rest mis := by
  funext y
  by_cases h : y = Str.ofString "have"
  · subst h; with_unfolding_all rfl
  · simp only [mmL, if_neg h]
theorem set_have {h₀ h : Heap} {L sc : Addr} {m : Str → Option Value} {told hav num act rest mis v : Option Value} (F : Fr h₀ L h (fun y => if y = Str.ofString "have" then v else m y)) (e : m = mmL sc told hav num act rest mis) : Fr h₀ L h (mmL sc told v num act rest mis) := by
  subst e
  rw [mmL_have] at F
  exact F
theorem mmL_number {sc : Addr} {told hav num act rest mis v : Option Value} : (fun y => if y = Str.ofString "number" then v else mmL sc told hav num act rest mis y) = mmL sc told hav v act rest mis := by
  funext y
  by_cases h : y = Str.ofString "number"
  · subst h; with_unfolding_all rfl
  · simp only [mmL, if_neg h]
theorem set_number {h₀ h : Heap} {L sc : Addr} {m : Str → Option Value} {told hav num act rest mis v : Option Value} (F : Fr h₀ L h (fun y => if y = Str.ofString "number" then v else m y)) (e : m = mmL sc told hav num act rest mis) : Fr h₀ L h (mmL sc told hav v act rest mis) := by
  subst e
  rw [mmL_number] at F
  exact F
theorem mmL_act {sc : Addr} {told hav num act rest mis v : Option Value} : (fun y => if y = Str.ofString "act" then v else mmL sc told hav num act rest mis y) = mmL sc told hav num v rest mis := by
  funext y
  by_cases h : y = Str.ofString "act"
  · subst h; with_unfolding_all rfl
  · simp only [mmL, if_neg h]
theorem mmL_rest {sc : Addr} {told hav num act rest mis v : Option Value} : (fun y => if y = Str.ofString "rest" then v else mmL sc told hav num act rest mis y) = mmL sc told hav num act v mis := by
  funext y
  by_cases h : y = Str.ofString "rest"
  · subst h; with_unfolding_all rfl
  · simp only [mmL, if_neg h]
theorem set_rest {h₀ h : Heap} {L sc : Addr} {m : Str → Option Value} {told hav num act rest mis v : Option Value} (F : Fr h₀ L h (fun y => if y = Str.ofString "rest" then v else m y)) (e : m = mmL sc told hav num act rest mis) : Fr h₀ L h (mmL sc told hav num act v mis) := by
  subst e
  rw [mmL_rest] at F
  exact F
theorem mmL_missing {sc : Addr} {told hav num act rest mis v : Option Value} : (fun y => if y = Str.ofString "missing" then v else mmL sc told hav num act rest mis y) = mmL sc told hav num act rest v := by
  funext y
  by_cases h : y = Str.ofString "missing"
  · subst h; with_unfolding_all rfl
  · simp only [mmL, if_neg h]
theorem set_missing {h₀ h : Heap} {L sc : Addr} {m : Str → Option Value} {told hav num act rest mis v : Option Value} (F : Fr h₀ L h (fun y => if y = Str.ofString "missing" then v else m y)) (e : m = mmL sc told hav num act rest mis) : Fr h₀ L h (mmL sc told hav num act rest v) := by
  subst e
  rw [mmL_missing] at F
  exact F
/-- the told pairs among the news -/
noncomputable def TupN (its : List Value) (told : List (Nat × Nat)) (tn : List (Addr × Obj)) : Prop :=
  its.length = told.length ∧ ∀ i p q : Nat, told[i]? = some (p, q) → ∃ a t1 t2, its[i]? = some (Value.ref a) ∧ (a, pairO p q t1 t2) ∈ tn
theorem TupN.tups {h₀ h : Heap} {L : Addr} {news tn : List (Addr × Obj)} {its : List Value} {told : List (Nat × Nat)} (x : TupN its told tn) (N : News h₀ L h news) (k : ∀ q ∈ tn, q ∈ news) : Tups h its told :=
  ⟨x.1, fun i p q e => by obtain ⟨a, t1, t2, e1, e2⟩ := x.2 i p q e; exact ⟨a, t1, t2, e1, (N _ (k _ e2)).1⟩⟩
/-- the table of codes of _law_missing, its lambda's code among the news -/
noncomputable def TabN (ps : Array Value) (tn : List (Addr × Obj)) : Prop :=
  ps = #[] ∨ ∃ c' o, ps = #[rawInt 169, rawInt 28, .ref c'] ∧ (c', o) ∈ tn ∧ ∀ h : Heap, h.get? c' = some o → h.CodeRec (.ref c') (Str.ofString "_law_missing" ++ ".<locals>." ++ "<lambda>")
/-- what the law knows of its state, the heap aside -/
structure LF (w : World) (k n here : Nat) (T : Nat → Str) (U D : Nat → Nat) (tv uv dv : List Value) (o : Obj) (kvs : List (Str × Value)) (told : List (Nat × Nat)) (its vs : List Value) (tn : List (Addr × Obj)) (ps : Array Value) : Prop where
  tS : TblS tv n T
  tU : TblI uv n U
  tD : TblI dv n D
  hd : o.IsDictOf (PySem.strKind prg w) kvs
  pl : Places kvs n T
  tr : TreeOk n T U D
  six : Six n D
  hn : here < n
  nk : n ≤ k + 1
  tup : TupN its told tn
  bd : ∀ x ∈ told, x.1 < n ∧ x.2 ≤ 3
  tl : told.length ≤ k + ((List.range n).filter (fun q => decide ((q, 1) ∈ told))).length
  hv : StrsAre vs (told.map (nm T))
  tab : TabN ps tn
/-- the order of the law's own objects -/
structure LO (L tx up dp pl tr Dl I : Addr) : Prop where
  a : @LT.lt Nat _ 178 L
  b : @LT.lt Nat _ (L + 4) tx
  c : @LT.lt Nat _ tx up
  d : @LT.lt Nat _ up dp
  e : @LT.lt Nat _ dp pl
  f : @LT.lt Nat _ pl tr
  g : @LT.lt Nat _ tr Dl
  h : @LT.lt Nat _ Dl I
/-- the tail of the news stands apart -/
noncomputable def LA (L tx up dp pl tr I : Addr) (tn : List (Addr × Obj)) : Prop :=
  ∀ q ∈ tn, (@Ne Nat q.1 I ∧ @Ne Nat q.1 178 ∧ @Ne Nat q.1 (L + 2) ∧ @Ne Nat q.1 (L + 3) ∧ @Ne Nat q.1 (L + 4)) ∧ (@Ne Nat q.1 tx ∧ @Ne Nat q.1 up ∧ @Ne Nat q.1 dp ∧ @Ne Nat q.1 pl ∧ @Ne Nat q.1 tr)
noncomputable abbrev LN (L tr tx up dp pl Dl ha to : Addr) (ws : List Value) (vs its tv uv dv : List Value) (cH cO cT cU cD : Nat) (o o1 o2 o3 o4 : Obj) (ps : Array Value) (tn : List (Addr × Obj)) : List (Addr × Obj) :=
  (Dl, listOf ws.toArray 0) :: (ha, listOf (List.toArray vs) cH) :: (to, listOf (List.toArray its) cO) :: (tr, listOf (List.toArray [.ref tx, .ref up, .ref dp, .ref pl]) 0) :: (pl, o) :: (dp, listOf (List.toArray dv) cD) :: (up, listOf (List.toArray uv) cU) :: (tx, listOf (List.toArray tv) cT) :: (L + 4, o4) :: (L + 3, o3) :: (L + 2, o2) :: (L + 1, o1) :: (178, tabObj ps) :: tn
noncomputable def LC (tr : Addr) (here : Nat) (o1 o2 o3 o4 : Obj) : Prop :=
  o1.data = .cell (some (.ref tr)) ∧ (∃ th, o2.data = .cell (some (.int (here : Nat) th))) ∧ (∃ c3, o3.data = .cell c3) ∧ ∃ c4, o4.data = .cell c4
/-- the law's state between two turns: k turns are done -/
inductive LX (w : World) (s₀ : Shared) (h₀ : Heap) (L sc tr tx up dp pl Dl I : Addr) (ws : List Value) (k : Nat) (a4 : Option Value) (s' : Shared) : Prop
  | mk (h : Heap) (tk : Nat) (gs : Array GenState) (told : List (Nat × Nat)) (its : List Value) (cO : Nat) (to : Addr) (vs : List Value) (cH : Nat) (ha : Addr) (here n : Nat) (T : Nat → Str) (U D : Nat → Nat) (tv uv dv : List Value) (o : Obj) (kvs : List (Str × Value)) (cT cU cD : Nat) (o1 o2 o3 o4 : Obj) (ps : Array Value) (tn : List (Addr × Obj)) (a3 a5 a6 : Option Value)
    (e : s' = { s₀ with heap := h, toks := tk, gens := gs }) (hb : AllBare gs) (F : Fr h₀ L h (mmL sc (some (.ref to)) (some (.ref ha)) a3 a4 a5 a6))
    (N : News h₀ L h (LN L tr tx up dp pl Dl ha to ws vs its tv uv dv cH cO cT cU cD o o1 o2 o3 o4 ps tn)) (C : LC tr here o1 o2 o3 o4)
    (lf : LF w k n here T U D tv uv dv o kvs told its vs tn ps) (la : LA L tx up dp pl tr I tn) (zz : @LT.lt Nat _ tr to ∧ @LT.lt Nat _ tr ha ∧ @Ne Nat to I ∧ @Ne Nat ha I) : LX w s₀ h₀ L sc tr tx up dp pl Dl I ws k a4 s'
/-- what the news say, one by one -/
theorem news13 {h₀ h : Heap} {L a1 a2 a3 a4 a5 a6 a7 a8 a9 b1 b2 b3 b4 : Addr} {o1 o2 o3 o4 o5 o6 o7 o8 o9 q1 q2 q3 q4 : Obj} {tn : List (Addr × Obj)} (N : News h₀ L h ((a1, o1) :: (a2, o2) :: (a3, o3) :: (a4, o4) :: (a5, o5) :: (a6, o6) :: (a7, o7) :: (a8, o8) :: (a9, o9) :: (b1, q1) :: (b2, q2) :: (b3, q3) :: (b4, q4) :: tn)) :
    (h.get? a1 = some o1 ∧ a1 ≠ L ∧ h₀.get? a1 = none) ∧ (h.get? a2 = some o2 ∧ a2 ≠ L ∧ h₀.get? a2 = none) ∧ (h.get? a3 = some o3 ∧ a3 ≠ L ∧ h₀.get? a3 = none) ∧ (h.get? a4 = some o4 ∧ a4 ≠ L ∧ h₀.get? a4 = none) ∧ (h.get? a5 = some o5 ∧ a5 ≠ L ∧ h₀.get? a5 = none) ∧ (h.get? a6 = some o6 ∧ a6 ≠ L ∧ h₀.get? a6 = none) ∧ (h.get? a7 = some o7 ∧ a7 ≠ L ∧ h₀.get? a7 = none) ∧ (h.get? a8 = some o8 ∧ a8 ≠ L ∧ h₀.get? a8 = none) ∧ (h.get? a9 = some o9 ∧ a9 ≠ L ∧ h₀.get? a9 = none) ∧
    (h.get? b1 = some q1 ∧ b1 ≠ L ∧ h₀.get? b1 = none) ∧ (h.get? b2 = some q2 ∧ b2 ≠ L ∧ h₀.get? b2 = none) ∧ (h.get? b3 = some q3 ∧ b3 ≠ L ∧ h₀.get? b3 = none) ∧ (h.get? b4 = some q4 ∧ b4 ≠ L ∧ h₀.get? b4 = none) ∧ ∀ q ∈ tn, h.get? q.1 = some q.2 ∧ q.1 ≠ L ∧ h₀.get? q.1 = none := by
  simpa only [News, List.forall_mem_cons] using N
theorem news13_of {h₀ h : Heap} {L a1 a2 a3 a4 a5 a6 a7 a8 a9 b1 b2 b3 b4 : Addr} {o1 o2 o3 o4 o5 o6 o7 o8 o9 q1 q2 q3 q4 : Obj} {tn : List (Addr × Obj)} (c1 : h.get? a1 = some o1 ∧ a1 ≠ L ∧ h₀.get? a1 = none) (c2 : h.get? a2 = some o2 ∧ a2 ≠ L ∧ h₀.get? a2 = none) (c3 : h.get? a3 = some o3 ∧ a3 ≠ L ∧ h₀.get? a3 = none) (c4 : h.get? a4 = some o4 ∧ a4 ≠ L ∧ h₀.get? a4 = none) (c5 : h.get? a5 = some o5 ∧ a5 ≠ L ∧ h₀.get? a5 = none) (c6 : h.get? a6 = some o6 ∧ a6 ≠ L ∧ h₀.get? a6 = none) (c7 : h.get? a7 = some o7 ∧ a7 ≠ L ∧ h₀.get? a7 = none)
    (c8 : h.get? a8 = some o8 ∧ a8 ≠ L ∧ h₀.get? a8 = none) (c9 : h.get? a9 = some o9 ∧ a9 ≠ L ∧ h₀.get? a9 = none) (d1 : h.get? b1 = some q1 ∧ b1 ≠ L ∧ h₀.get? b1 = none) (d2 : h.get? b2 = some q2 ∧ b2 ≠ L ∧ h₀.get? b2 = none) (d3 : h.get? b3 = some q3 ∧ b3 ≠ L ∧ h₀.get? b3 = none) (d4 : h.get? b4 = some q4 ∧ b4 ≠ L ∧ h₀.get? b4 = none) (dt : ∀ q ∈ tn, h.get? q.1 = some q.2 ∧ q.1 ≠ L ∧ h₀.get? q.1 = none) :
    News h₀ L h ((a1, o1) :: (a2, o2) :: (a3, o3) :: (a4, o4) :: (a5, o5) :: (a6, o6) :: (a7, o7) :: (a8, o8) :: (a9, o9) :: (b1, q1) :: (b2, q2) :: (b3, q3) :: (b4, q4) :: tn) := by
  simp only [News, List.forall_mem_cons]
  exact ⟨c1, c2, c3, c4, c5, c6, c7, c8, c9, d1, d2, d3, d4, dt⟩
/-- the law's own objects stand apart -/
structure LP (L tx up dp pl tr Dl I : Addr) : Prop where
  tr : @Ne Nat L I ∧ @Ne Nat Dl I ∧ @Ne Nat tr I ∧ @Ne Nat pl I ∧ @Ne Nat dp I ∧ @Ne Nat up I ∧ @Ne Nat tx I
  L : @Ne Nat (L + 4) I ∧ @Ne Nat (L + 3) I ∧ @Ne Nat (L + 2) I ∧ @Ne Nat (L + 1) I ∧ @Ne Nat 178 I
theorem LO.low {L tx up dp pl tr Dl I : Addr} (q : LO L tx up dp pl tr Dl I) : @LT.lt Nat _ (L + 4) tx ∧ @LT.lt Nat _ (L + 3) tx ∧ @LT.lt Nat _ (L + 2) tx ∧ @LT.lt Nat _ (L + 1) tx ∧ @LT.lt Nat _ 178 tx ∧ @LT.lt Nat _ L tx :=
  have h3 : @LT.lt Nat _ (L + 3) tx := Nat.lt_of_succ_lt q.b
  have h2 : @LT.lt Nat _ (L + 2) tx := Nat.lt_of_succ_lt h3
  have h1 : @LT.lt Nat _ (L + 1) tx := Nat.lt_of_succ_lt h2
  have h0 : @LT.lt Nat _ L tx := Nat.lt_of_succ_lt h1
  ⟨q.b, h3, h2, h1, Nat.lt_trans q.a h0, h0⟩
/-- the tree's own objects lie one above the other -/
theorem LO.up5 {L tx up dp pl tr Dl I : Addr} (q : LO L tx up dp pl tr Dl I) : @LT.lt Nat _ tx dp ∧ @LT.lt Nat _ tx pl ∧ @LT.lt Nat _ tx tr ∧ @LT.lt Nat _ up tr ∧ @LT.lt Nat _ dp tr ∧ @LT.lt Nat _ tr I ∧ @LT.lt Nat _ tx I :=
  have e1 : @LT.lt Nat _ tx dp := Nat.lt_trans q.c q.d
  have e2 : @LT.lt Nat _ tx pl := Nat.lt_trans e1 q.e
  have e3 : @LT.lt Nat _ dp tr := Nat.lt_trans q.e q.f
  have e4 : @LT.lt Nat _ tx tr := Nat.lt_trans e2 q.f
  have e5 : @LT.lt Nat _ tr I := Nat.lt_trans q.g q.h
  ⟨e1, e2, e4, Nat.lt_trans q.d e3, e3, e5, Nat.lt_trans e4 e5⟩
theorem LO.lp {L tx up dp pl tr Dl I : Addr} (q : LO L tx up dp pl tr Dl I) : LP L tx up dp pl tr Dl I :=
  have l := q.low
  have u := q.up5
  have t := u.2.2.2.2.2.2
  have r := u.2.2.2.2.2.1
  ⟨⟨Nat.ne_of_lt (Nat.lt_trans l.2.2.2.2.2 t), Nat.ne_of_lt q.h, Nat.ne_of_lt r, Nat.ne_of_lt (Nat.lt_trans q.f r), Nat.ne_of_lt (Nat.lt_trans u.2.2.2.2.1 r), Nat.ne_of_lt (Nat.lt_trans u.2.2.2.1 r), Nat.ne_of_lt t⟩,
    ⟨Nat.ne_of_lt (Nat.lt_trans l.1 t), Nat.ne_of_lt (Nat.lt_trans l.2.1 t), Nat.ne_of_lt (Nat.lt_trans l.2.2.1 t), Nat.ne_of_lt (Nat.lt_trans l.2.2.2.1 t), Nat.ne_of_lt (Nat.lt_trans l.2.2.2.2.1 t)⟩⟩
theorem LO.apart5 {L tx up dp pl tr Dl I b : Addr} (q : LO L tx up dp pl tr Dl I) (hb : @LT.lt Nat _ b tx ∨ @LT.lt Nat _ tr b) : @Ne Nat b tr ∧ @Ne Nat b tx ∧ @Ne Nat b up ∧ @Ne Nat b dp ∧ @Ne Nat b pl :=
  have u := q.up5
  hb.elim (fun h => ⟨Nat.ne_of_lt (Nat.lt_trans h u.2.2.1), Nat.ne_of_lt h, Nat.ne_of_lt (Nat.lt_trans h q.c), Nat.ne_of_lt (Nat.lt_trans h u.1), Nat.ne_of_lt (Nat.lt_trans h u.2.1)⟩)
    fun h => ⟨Nat.ne_of_gt h, Nat.ne_of_gt (Nat.lt_trans u.2.2.1 h), Nat.ne_of_gt (Nat.lt_trans u.2.2.2.1 h), Nat.ne_of_gt (Nat.lt_trans u.2.2.2.2.1 h), Nat.ne_of_gt (Nat.lt_trans q.f h)⟩
/-- what lies above the iterator stands apart -/
theorem LO.apartI {L tx up dp pl tr Dl I b : Addr} (q : LO L tx up dp pl tr Dl I) (h : @LT.lt Nat _ I b) : (@Ne Nat b I ∧ @Ne Nat b 178 ∧ @Ne Nat b (L + 2) ∧ @Ne Nat b (L + 3) ∧ @Ne Nat b (L + 4)) ∧ (@Ne Nat b tx ∧ @Ne Nat b up ∧ @Ne Nat b dp ∧ @Ne Nat b pl ∧ @Ne Nat b tr) :=
  have l := q.low
  have u := q.up5
  have t : @LT.lt Nat _ tx b := Nat.lt_trans u.2.2.2.2.2.2 h
  have a := q.apart5 (.inr (Nat.lt_trans u.2.2.2.2.2.1 h))
  ⟨⟨Nat.ne_of_gt h, Nat.ne_of_gt (Nat.lt_trans l.2.2.2.2.1 t), Nat.ne_of_gt (Nat.lt_trans l.2.2.1 t), Nat.ne_of_gt (Nat.lt_trans l.2.1 t), Nat.ne_of_gt (Nat.lt_trans l.1 t)⟩, a.2.1, a.2.2.1, a.2.2.2.1, a.2.2.2.2, a.1⟩
theorem LO.cell {L tx up dp pl tr Dl I to ha c : Addr} (q : LO L tx up dp pl tr Dl I) (hc : @LT.lt Nat _ L c) (hx : @LT.lt Nat _ c tx) (h1 : @LT.lt Nat _ tr to) (h2 : @LT.lt Nat _ tr ha) :
    @Ne Nat I c ∧ @Ne Nat Dl c ∧ @Ne Nat ha c ∧ @Ne Nat to c ∧ @Ne Nat tr c ∧ @Ne Nat pl c ∧ @Ne Nat dp c ∧ @Ne Nat up c ∧ @Ne Nat tx c ∧ @Ne Nat 178 c :=
  have u := q.up5
  have r : @LT.lt Nat _ c tr := Nat.lt_trans hx u.2.2.1
  ⟨Nat.ne_of_gt (Nat.lt_trans hx u.2.2.2.2.2.2), Nat.ne_of_gt (Nat.lt_trans r q.g), Nat.ne_of_gt (Nat.lt_trans r h2), Nat.ne_of_gt (Nat.lt_trans r h1), Nat.ne_of_gt r, Nat.ne_of_gt (Nat.lt_trans hx u.2.1), Nat.ne_of_gt (Nat.lt_trans hx u.1), Nat.ne_of_gt (Nat.lt_trans hx q.c), Nat.ne_of_gt hx, Nat.ne_of_lt (Nat.lt_trans q.a hc)⟩
theorem cellNe {L i j : Nat} (h : i ≠ j) : @Ne Nat (L + i) (L + j) := fun e => h (Nat.add_left_cancel e)
theorem ins {pre tn : List (Addr × Obj)} {x : Addr × Obj} {P : Addr × Obj → Prop} (h : ∀ q ∈ pre ++ tn, P q) (hx : P x) : ∀ q ∈ pre ++ (x :: tn), P q := fun q hq => by
  rcases List.mem_append.mp hq with hq | hq
  · exact h q (List.mem_append_left _ hq)
  rcases List.mem_cons.mp hq with e | hq
  · rw [e]; exact hx
  · exact h q (List.mem_append_right _ hq)
theorem LX.frame {w : World} {s₀ : Shared} {h₀ : Heap} {L sc tr tx up dp pl Dl I : Addr} {ws : List Value} {k : Nat} {a4 : Option Value} {s' : Shared} {h' : Heap} {tk : Nat} (x : LX w s₀ h₀ L sc tr tx up dp pl Dl I ws k a4 s')
    (q : LO L tx up dp pl tr Dl I) (qI : h₀.get? I = none) (kk : ∀ b o, b ≠ I → s'.heap.get? b = some o → h'.get? b = some o) :
    LX w s₀ h₀ L sc tr tx up dp pl Dl I ws k a4 { s' with heap := h', toks := tk } := by
  obtain ⟨h, tk0, gs, told, its, cO, to, vs, cH, ha, here, n, T, U, D, tv, uv, dv, o, kvs, cT, cU, cD, o1, o2, o3, o4, ps, tn, a3, a5, a6, rfl, hb, F, N, cs, lf, la, z1, z2, z3, z4⟩ := x
  obtain ⟨⟨r1, r2, r3, r4, r5, r6, r7⟩, r8, r9, s1, s2, s3⟩ := q.lp
  have g : ∀ {b : Addr} {ob : Obj}, @Ne Nat b I → h.get? b = some ob ∧ b ≠ L ∧ h₀.get? b = none → h'.get? b = some ob ∧ b ≠ L ∧ h₀.get? b = none := fun hb q => ⟨kk _ _ hb q.1, q.2⟩
  obtain ⟨n1, n2, n3, n4, n5, n6, n7, n8, n9, n10, n11, n12, n13, n14⟩ := news13 N
  exact ⟨h', tk, gs, told, its, cO, to, vs, cH, ha, here, n, T, U, D, tv, uv, dv, o, kvs, cT, cU, cD, o1, o2, o3, o4, ps, tn, a3, a5, a6, rfl, hb, fr_old F r1 qI kk, news13_of (g r2 n1) (g z4 n2) (g z3 n3) (g r3 n4) (g r4 n5) (g r5 n6) (g r6 n7) (g r7 n8) (g r8 n9) (g r9 n10) (g s1 n11) (g s2 n12) (g s3 n13) (fun q hq => g (la q hq).1.1 (n14 q hq)), cs, lf, la, z1, z2, z3, z4⟩
end Mine
namespace Mine
theorem resetLs : True := by
  k_with_none
  w_top off
  trivial
section
variable {prog : Program} {w : World} {A : Around} {E : Value → Shared → Prop} {s : Shared} {h₀ : Heap} {L l : Addr} {m : Str → Option Value} {news : List (Addr × Obj)} {its : List Value} {c n : Nat} {i : Int} {u : Tok} {value slice : Expr} {Q : Value → Shared → Prop}
/-- an item of a list that is written out, among the news -/
theorem subLN {v : Value} (N : News h₀ L s.heap news) (hm : (l, listOf (List.toArray its) c) ∈ news) (h0 : 0 ≤ i) (hi : i < 100) (hv : its[i.toNat]? = some v) (h : Q v s)
    (hs : subscripted slice false (.ref l) (.int i u) = operate [.ref l, .int i u] (getItem (.ref l) (.int i u))) : wpAny (model prog w) A (subscriptTail value slice (.ref l) (.int i u)) Q E s :=
  item_litK (vs := its) ⟨_, (N _ hm).1, rfl, _, rfl⟩ h0 (by omega) hv h hs
end
section
variable {prog : Program} {w : World} {A : Around} {E : Value → Shared → Prop} {s : Shared} {h₀ : Heap} {L l1 l2 : Addr} {m : Str → Option Value} {news : List (Addr × Obj)} {its1 its2 : List Value} {c1 c2 : Nat} {Q : Value → Shared → Prop}
theorem addN (F : Fr h₀ L s.heap m) (N : News h₀ L s.heap news) (h1 : (l1, listOf (List.toArray its1) c1) ∈ news) (h2 : (l2, listOf (List.toArray its2) c2) ∈ news) (hz : its1.length + its2.length ≤ 1000)
    (h : ∀ D h', Fr h₀ L h' m → News h₀ L h' ((D, listOf (List.toArray (its1 ++ its2)) 0) :: news) → (∀ p ∈ news, p.1 < D) → Q (.ref D) { s with heap := h' }) : wpAny (model prog w) A (binaryOp .Add (.ref l1) (.ref l2)) Q E s :=
  kmk_add_lit (its := its1.toArray) (its2 := its2.toArray) F N ⟨_, (N _ h1).1, rfl, _, rfl⟩ ⟨_, (N _ h2).1, rfl, _, rfl⟩ rfl h (by rw [sizeLine_eq]; simp only [List.toArray]; omega)
end
theorem filter_len_mono {α : Type} {p q : α → Bool} {l : List α} (h : ∀ x, p x = true → q x = true) : (l.filter p).length ≤ (l.filter q).length := by
  rw [← List.countP_eq_length_filter, ← List.countP_eq_length_filter]
  exact List.countP_mono_left fun x _ hx => h x hx
theorem slice_last (its : List Value) (v : Value) : slicePick (its ++ [v]).toArray (some (-1)) none none = List.toArray [v] := by
  have h1 : sliceBounds (some (-1)) none none (its ++ [v]).toArray.size = ((its.length : Int), (its.length : Int) + 1, 1) := by
    simp only [sliceBounds, List.size_toArray, List.length_append, List.length_cons, List.length_nil, Option.getD_none]
    refine Prod.ext ?_ (Prod.ext ?_ rfl)
    · simp; omega
    · simp
  have h2 : sliceRange (its.length : Int) ((its.length : Int) + 1) 1 = [its.length] := by
    unfold sliceRange
    simp
    rw [if_pos (by omega)]
    refine ⟨0, ?_, by simp⟩
    rw [show ((its.length : Int) + 1 - its.length) = 1 from by omega]
    rfl
  unfold slicePick
  rw [h1]
  simp only [h2]
  simp
theorem LN.mk {news : List (Addr × Obj)} {h₀ h : Heap} {L tr tx up dp pl Dl ha to I : Addr} {ws vs its tv uv dv : List Value} {cH cO cT cU cD : Nat} {o o1 o2 o3 o4 oI : Obj} {ps : Array Value} {tn : List (Addr × Obj)} (N : News h₀ L h news) (m : (I, oI) ∈ news) (m1 : (Dl, listOf ws.toArray 0) ∈ news) (m2 : (ha, listOf (List.toArray vs) cH) ∈ news) (m3 : (to, listOf (List.toArray its) cO) ∈ news) (m4 : (tr, listOf (List.toArray [.ref tx, .ref up, .ref dp, .ref pl]) 0) ∈ news) (m5 : (pl, o) ∈ news) (m6 : (dp, listOf (List.toArray dv) cD) ∈ news) (m7 : (up, listOf (List.toArray uv) cU) ∈ news) (m8 : (tx, listOf (List.toArray tv) cT) ∈ news) (m9 : (L + 4, o4) ∈ news) (m10 : (L + 3, o3) ∈ news) (m11 : (L + 2, o2) ∈ news) (m12 : (L + 1, o1) ∈ news) (m13 : ((178 : Nat), tabObj ps) ∈ news) (mt : ∀ q ∈ tn, q ∈ news) :
    News h₀ L h ((I, oI) :: LN L tr tx up dp pl Dl ha to ws vs its tv uv dv cH cO cT cU cD o o1 o2 o3 o4 ps tn) := by
  exact List.forall_mem_cons.mpr ⟨N _ m, news13_of (N _ m1) (N _ m2) (N _ m3) (N _ m4) (N _ m5) (N _ m6) (N _ m7) (N _ m8) (N _ m9) (N _ m10) (N _ m11) (N _ m12) (N _ m13) fun q hq => N q (mt q hq)⟩
theorem swapN {pre post : List (Addr × Obj)} {x y : Addr × Obj} {P : Addr × Obj → Prop} (h : ∀ q ∈ pre ++ x :: post, P q) (hy : P y) : ∀ q ∈ pre ++ y :: post, P q := fun q hq => by
  rcases List.mem_append.mp hq with hq | hq
  · exact h q (List.mem_append_left _ hq)
  rcases List.mem_cons.mp hq with e | hq
  · rw [e]; exact hy
  · exact h q (List.mem_append_right _ (.tail _ hq))
theorem LN.ha {h₀ h : Heap} {L tr tx up dp pl Dl ha to I x : Addr} {ws vs its tv uv dv us : List Value} {cH cO cT cU cD c : Nat} {o o1 o2 o3 o4 oI : Obj} {ps : Array Value} {tn : List (Addr × Obj)} (N : News h₀ L h ((I, oI) :: LN L tr tx up dp pl Dl ha to ws vs its tv uv dv cH cO cT cU cD o o1 o2 o3 o4 ps tn)) (m : h.get? x = some (listOf (List.toArray us) c) ∧ x ≠ L ∧ h₀.get? x = none) : News h₀ L h ((I, oI) :: LN L tr tx up dp pl Dl x to ws us its tv uv dv c cO cT cU cD o o1 o2 o3 o4 ps tn) :=
  swapN (pre := [(I, oI), (Dl, listOf ws.toArray 0)]) N m
theorem LN.to {h₀ h : Heap} {L tr tx up dp pl Dl ha to I x : Addr} {ws vs its tv uv dv us : List Value} {cH cO cT cU cD c : Nat} {o o1 o2 o3 o4 oI : Obj} {ps : Array Value} {tn : List (Addr × Obj)} (N : News h₀ L h ((I, oI) :: LN L tr tx up dp pl Dl ha to ws vs its tv uv dv cH cO cT cU cD o o1 o2 o3 o4 ps tn)) (m : h.get? x = some (listOf (List.toArray us) c) ∧ x ≠ L ∧ h₀.get? x = none) : News h₀ L h ((I, oI) :: LN L tr tx up dp pl Dl ha x ws vs us tv uv dv cH c cT cU cD o o1 o2 o3 o4 ps tn) :=
  swapN (pre := [(I, oI), (Dl, listOf ws.toArray 0), (ha, listOf (List.toArray vs) cH)]) N m
theorem TupN.more {its its2 : List Value} {told told2 : List (Nat × Nat)} {tn tn2 : List (Addr × Obj)} (h : TupN its told tn) (h2 : TupN its2 told2 tn2) : TupN (its ++ its2) (told ++ told2) (tn2 ++ tn) := by
  refine ⟨by rw [List.length_append, List.length_append, h.1, h2.1], fun i p q e => ?_⟩
  by_cases z : i < told.length
  · rw [List.getElem?_append_left z] at e
    obtain ⟨a, t1, t2, e1, e2⟩ := h.2 i p q e
    exact ⟨a, t1, t2, by rw [List.getElem?_append_left (by rw [h.1]; exact z)]; exact e1, List.mem_append_right _ e2⟩
  · rw [List.getElem?_append_right (by omega)] at e
    obtain ⟨a, t1, t2, e1, e2⟩ := h2.2 _ p q e
    exact ⟨a, t1, t2, by rw [List.getElem?_append_right (by rw [h.1]; omega), h.1]; exact e1, List.mem_append_left _ e2⟩
theorem TupN.one {t : Addr} {p q : Nat} {t1 t2 : Tok} : TupN [.ref t] [(p, q)] [(t, pairO p q t1 t2)] := by
  refine ⟨rfl, fun i p' q' e => ?_⟩
  cases i with
  | zero => cases e; exact ⟨t, t1, t2, rfl, .head _⟩
  | succ i => simp at e
theorem TupN.snoc {its : List Value} {told : List (Nat × Nat)} {tn : List (Addr × Obj)} {v : Value} {p q a : Nat} {t1 t2 : Tok} (h : TupN its told tn) (hv : v = .ref a) (hm : (a, pairO p q t1 t2) ∈ tn) : TupN (its ++ [v]) (told ++ [(p, q)]) tn := by
  refine ⟨by rw [List.length_append, List.length_append, h.1]; rfl, fun i p' q' e => ?_⟩
  by_cases z : i < told.length
  · rw [List.getElem?_append_left z] at e
    obtain ⟨b, u1, u2, e1, e2⟩ := h.2 i p' q' e
    exact ⟨b, u1, u2, by rw [List.getElem?_append_left (by rw [h.1]; exact z)]; exact e1, e2⟩
  · rw [List.getElem?_append_right (by omega)] at e
    obtain ⟨w, hw⟩ : ∃ w, w = i - told.length := ⟨_, rfl⟩
    rw [← hw] at e
    cases w with
    | zero =>
      cases e
      refine ⟨a, t1, t2, ?_, hm⟩
      rw [List.getElem?_append_right (by rw [h.1]; omega), h.1, ← hw, hv]; rfl
    | succ w => simp at e
theorem TupN.at {its : List Value} {told : List (Nat × Nat)} {tn : List (Addr × Obj)} {i : Nat} {v : Value} (h : TupN its told tn) (hv : its.toArray[i]? = some v) : ∃ p q a t1 t2, told[i]? = some (p, q) ∧ v = .ref a ∧ (a, pairO p q t1 t2) ∈ tn := by
  simp only [List.getElem?_toArray] at hv
  have hil := (List.getElem?_eq_some_iff.mp hv).1
  rw [h.1] at hil
  obtain ⟨⟨p, q⟩, hx⟩ : ∃ x, told[i]? = some x := ⟨_, List.getElem?_eq_getElem hil⟩
  obtain ⟨a, t1, t2, e1, e2⟩ := h.2 i p q hx
  rw [e1] at hv
  exact ⟨p, q, a, t1, t2, hx, (Option.some.inj hv).symm, e2⟩
theorem filter_takeP {α : Type} {P : α → Bool} {l : List α} {i : Nat} {x : α} (h : l[i]? = some x) : (l.take (i + 1)).filter P = (l.take i).filter P ++ (if P x = true then [x] else []) := by
  rw [List.take_add_one, h, List.filter_append]
  congr 1
  by_cases z : P x = true
  · rw [if_pos z]; simp [z]
  · rw [if_neg z]; simp [z]
section
variable {prog : Program} {w : World} {A : Around} {E : Value → Shared → Prop} {s : Shared} {h₀ : Heap} {L l : Addr} {news : List (Addr × Obj)} {its : List Value} {c n : Nat} {u : Tok} {value slice : Expr} {Q : Value → Shared → Prop}
theorem sub0N {a p q : Nat} {t1 t2 : Tok} (N : News h₀ L s.heap news) (ha : (a, pairO p q t1 t2) ∈ news) (h : Q (.int (p : Nat) t1) s)
    (hs : subscripted slice false (.ref a) (.int 0 u) = operate [.ref a, .int 0 u] (getItem (.ref a) (.int 0 u))) : wpAny (model prog w) A (subscriptTail value slice (.ref a) (.int 0 u)) Q E s :=
  item_tupleT (l := [.int (p : Nat) t1, .int (q : Nat) t2]) ⟨_, (N _ ha).1, rfl, _, rfl⟩ (by decide) (by decide) (by rfl) (by rfl) h hs
theorem sub1N {a p q : Nat} {t1 t2 : Tok} (N : News h₀ L s.heap news) (ha : (a, pairO p q t1 t2) ∈ news) (h : Q (.int (q : Nat) t2) s)
    (hs : subscripted slice false (.ref a) (.int 1 u) = operate [.ref a, .int 1 u] (getItem (.ref a) (.int 1 u))) : wpAny (model prog w) A (subscriptTail value slice (.ref a) (.int 1 u)) Q E s :=
  item_tupleT (l := [.int (p : Nat) t1, .int (q : Nat) t2]) ⟨_, (N _ ha).1, rfl, _, rfl⟩ (by decide) (by decide) (by rfl) (by rfl) h hs
theorem subMN {p : Nat} {M : Nat → Bool} (N : News h₀ L s.heap news) (hm : (l, listOf (List.toArray its) c) ∈ news) (tb : TblB its n M) (hp : p < n) (hn : n ≤ 100) (h : Q (.bool (M p)) s)
    (hs : subscripted slice false (.ref l) (.int (p : Nat) u) = operate [.ref l, .int (p : Nat) u] (getItem (.ref l) (.int (p : Nat) u))) : wpAny (model prog w) A (subscriptTail value slice (.ref l) (.int (p : Nat) u)) Q E s :=
  item_litK (vs := its) ⟨_, (N _ hm).1, rfl, _, rfl⟩ (by omega) (by have := tb.1; omega) (by rw [Int.toNat_natCast]; exact tb.2 _ hp) h hs
end
theorem TabN.more {ps : Array Value} {tn : List (Addr × Obj)} (h : TabN ps tn) (tn2 : List (Addr × Obj)) : TabN ps (tn2 ++ tn) := by
  rcases h with e | ⟨c', o, e, m, r⟩
  · exact .inl e
  · exact .inr ⟨c', o, e, List.mem_append_right _ m, r⟩
theorem LA.cons {L tx up dp pl tr I : Addr} {tn : List (Addr × Obj)} {q : Addr × Obj} (h : LA L tx up dp pl tr I tn) (hq : (@Ne Nat q.1 I ∧ @Ne Nat q.1 178 ∧ @Ne Nat q.1 (L + 2) ∧ @Ne Nat q.1 (L + 3) ∧ @Ne Nat q.1 (L + 4)) ∧ (@Ne Nat q.1 tx ∧ @Ne Nat q.1 up ∧ @Ne Nat q.1 dp ∧ @Ne Nat q.1 pl ∧ @Ne Nat q.1 tr)) : LA L tx up dp pl tr I (q :: tn) :=
  List.forall_mem_cons.mpr ⟨hq, h⟩
/-- how an act leaves the law -/
noncomputable def AX (w : World) (s₀ : Shared) (h₀ : Heap) (L sc tr tx up dp pl Dl I : Addr) (ws : List Value) (k : Nat) (a4 : Option Value) (oI : Obj) (f : Flow) (s' : Shared) : Prop :=
  f = .next ∧ LX w s₀ h₀ L sc tr tx up dp pl Dl I ws k a4 s' ∧ s'.heap.get? I = some oI
section
variable {w : World} {s : Shared} {mg mb : Str → Option Value} {mean : ExcName → Option Value} {d u : Nat} {gd : Option (List Code)} {E : Value → Shared → Prop} {Q : Flow → Shared → Prop} {L fa : Addr} {cd : Value} {h₀ : Heap}
variable {h : Heap} {tk : Nat} {gs : Array GenState} {told : List (Nat × Nat)} {its : List Value} {cO : Nat} {to : Addr} {vs : List Value} {cH : Nat} {ha : Addr} {here n : Nat} {T : Nat → Str} {U D : Nat → Nat} {tv uv dv : List Value} {o : Obj} {kvs : List (Str × Value)} {cT cU cD : Nat} {o1 o2 o3 o4 oI : Obj} {ps : Array Value} {tn : List (Addr × Obj)} {a3 a4 a5 a6 : Option Value}
variable {sc tr tx up dp pl Dl I : Addr} {ws : List Value} {k : Nat} {num : Int} {tr5 : Tok}
theorem LF.len (lf : LF w k n here T U D tv uv dv o kvs told its vs tn ps) (hk : k ≤ 44) : told.length ≤ 89 ∧ its.length ≤ 89 ∧ vs.length ≤ 89 ∧ n ≤ 45 := by
  have h1 := lf.tl
  have h2 := List.length_filter_le (fun q => decide ((q, 1) ∈ told)) (List.range n)
  rw [List.length_range] at h2
  have h3 := lf.nk
  have h4 := lf.tup.1
  have h5 : vs.length = told.length := by rw [lf.hv.length, List.length_map]
  omega
theorem AX.of (hb : AllBare gs) (F : Fr h₀ L h (mmL sc (some (.ref to)) (some (.ref ha)) a3 a4 a5 a6)) (N : News h₀ L h ((I, oI) :: LN L tr tx up dp pl Dl ha to ws vs its tv uv dv cH cO cT cU cD o o1 o2 o3 o4 ps tn)) (C : LC tr here o1 o2 o3 o4)
    (lf : LF w k n here T U D tv uv dv o kvs told its vs tn ps) (la : LA L tx up dp pl tr I tn) (zz : @LT.lt Nat _ tr to ∧ @LT.lt Nat _ tr ha ∧ @Ne Nat to I ∧ @Ne Nat ha I) : AX w s h₀ L sc tr tx up dp pl Dl I ws k a4 oI .next { s with heap := h, toks := tk, gens := gs } :=
  ⟨rfl, ⟨h, tk, gs, told, its, cO, to, vs, cH, ha, here, n, T, U, D, tv, uv, dv, o, kvs, cT, cU, cD, o1, o2, o3, o4, ps, tn, a3, a5, a6, rfl, hb, F, (List.forall_mem_cons.mp N).2, C, lf, la, zz⟩, (N _ (.head _)).1⟩
theorem LF.uu (lf : LF w k n here T U D tv uv dv o kvs told its vs tn ps) : Plain.Up n U := fun i h0 hi => (lf.tr.node i h0 hi).1
theorem LF.stay {here' : Nat} (lf : LF w k n here T U D tv uv dv o kvs told its vs tn ps) (hh : here' < n) : LF w (k + 1) n here' T U D tv uv dv o kvs told its vs tn ps :=
  { lf with hn := hh, nk := by have := lf.nk; omega, tl := by have := lf.tl; omega }
theorem count_le {P : Nat → Bool} {n n' : Nat} (h1 : n ≤ n') (h2 : n' ≤ n + 1) : ((List.range n).filter P).length ≤ ((List.range n').filter P).length := by
  rcases Nat.lt_or_ge n n' with z | z
  · obtain rfl : n' = n + 1 := by omega
    rw [List.range_succ, List.filter_append, List.length_append]; omega
  · obtain rfl : n' = n := by omega
    exact Nat.le_refl _
/-- names join -/
theorem LF.tell {p q : Nat} {its2 vs2 : List Value} {tn2 : List (Addr × Obj)} (lf : LF w k n here T U D tv uv dv o kvs told its vs tn ps) (hp : p < n) (hq : q ≤ 3) (h1 : TupN its2 [(p, q)] tn2) (h2 : StrsAre vs2 [nm T (p, q)]) : LF w (k + 1) n here T U D tv uv dv o kvs (told ++ [(p, q)]) (its ++ its2) (vs ++ vs2) (tn2 ++ tn) ps :=
  { lf with
    nk := by have := lf.nk; omega
    tup := lf.tup.more h1
    bd := fun x hx => by
      rcases List.mem_append.mp hx with hx | hx
      · exact lf.bd x hx
      · rw [List.mem_singleton.mp hx]; exact ⟨hp, hq⟩
    tl := by
      have h3 := lf.tl
      have h4 : ((List.range n).filter (fun q => decide ((q, 1) ∈ told))).length ≤ ((List.range n).filter (fun q' => decide ((q', 1) ∈ told ++ [(p, q)]))).length :=
        filter_len_mono fun x hx => by simp only [decide_eq_true_eq] at hx ⊢; exact List.mem_append_left _ hx
      rw [List.length_append]
      show _ + 1 ≤ _
      omega
    hv := by rw [List.map_append]; exact lf.hv.append' h2
    tab := lf.tab.more tn2 }
theorem LF.down {n' v : Nat} {T' : Nat → Str} {U' D' : Nat → Nat} {tv' uv' dv' : List Value} {o' : Obj} {kvs' : List (Str × Value)} (lf : LF w k n here T U D tv uv dv o kvs told its vs tn ps) (h1 : TblS tv' n' T') (h2 : TblI uv' n' U') (h3 : TblI dv' n' D') (h4 : o'.IsDictOf (strKind prg w) kvs')
    (h5 : Places kvs' n' T') (h6 : TreeOk n' T' U' D') (h7 : Six n' D') (h8 : v < n') (h9 : n ≤ n') (h10 : n' ≤ n + 1) (h11 : ∀ i, i < n → T' i = T i ∧ U' i = U i ∧ D' i = D i) : LF w (k + 1) n' v T' U' D' tv' uv' dv' o' kvs' told its vs tn ps where
  tS := h1
  tU := h2
  tD := h3
  hd := h4
  pl := h5
  tr := h6
  six := h7
  hn := h8
  nk := by have := lf.nk; omega
  tup := lf.tup
  bd := fun x hx => ⟨Nat.lt_of_lt_of_le (lf.bd x hx).1 h9, (lf.bd x hx).2⟩
  tl := by
    have := lf.tl
    have := count_le (P := fun q => decide ((q, 1) ∈ told)) h9 h10
    omega
  hv := by
    have e : told.map (nm T') = told.map (nm T) := List.map_congr_left fun x hx => by unfold nm; rw [(h11 _ (lf.bd x hx).1).1]
    rw [e]; exact lf.hv
  tab := lf.tab
theorem base_hide {m : Str → Option Value} (F : Fr h₀ L h m) (l : List Addr) (hl : ∀ a ∈ l, h₀.get? a = none) : Kp h₀ (hideAll h l) := fun b ob e => hideAll_get _ (F.keep _ _ e) fun hm => by rw [hl _ hm] at e; cases e
theorem down_use {mm : Str → Option Value} {fr : List Env} {E : Value → Shared → Prop} {Q : Value → Shared → Prop} {num : Int} {th tq : Tok} (X : (hd.heap_1 w.params).In h₀) (TT : Top topProg lg mean mg mb h₀) (hroom : d ≤ 380) (hu : u ≤ 2000)
    (F : Fr h₀ L s.heap mm) (N : News h₀ L s.heap ((I, oI) :: LN L tr tx up dp pl Dl ha to ws vs its tv uv dv cH cO cT cU cD o o1 o2 o3 o4 ps tn)) (O : LO L tx up dp pl tr Dl I) (hk : k ≤ 44) (lf : LF w k n here T U D tv uv dv o kvs told its vs tn ps) (la : LA L tx up dp pl tr I tn) (zz : @LT.lt Nat _ tr to ∧ @LT.lt Nat _ tr ha ∧ @Ne Nat to I ∧ @Ne Nat ha I)
    (hQ : ∀ h' tk v t n' T' U' D' tv' uv' dv' o' kvs' cT' cU' cD', Fr h₀ L h' mm → News h₀ L h' ((I, oI) :: LN L tr tx up dp pl Dl ha to ws vs its tv' uv' dv' cH cO cT' cU' cD' o' o1 o2 o3 o4 ps tn) → LF w (k + 1) n' v T' U' D' tv' uv' dv' o' kvs' told its vs tn ps → Q (.int (v : Nat) t) { s with heap := h', toks := tk }) :
    wpAny (model prg w) ⟨none, d, some fr, gd, u⟩ (call (.ref 169) [.ref tr, .int (here : Nat) th, .int num tq]) Q E s := by
  have q5 : ∀ {b : Addr}, (@LT.lt Nat _ b tx ∨ @LT.lt Nat _ tr b) → b ∉ [tr, tx, up, dp, pl] := fun hb => by
    have h5 := O.apart5 hb
    simp only [List.mem_cons, not_or]
    exact ⟨h5.1, h5.2.1, h5.2.2.1, h5.2.2.2.1, h5.2.2.2.2, fun h => nomatch h⟩
  obtain ⟨l4, l3, l2, l1, l0, lL⟩ := O.low
  obtain ⟨p1, p2, p3, p4, p5, p6, p7, p8⟩ := O
  obtain ⟨z1, z2, z3, z4⟩ := zz
  have g : ∀ {l : List Addr} {ob : Obj} {b : Addr}, b ∉ l → s.heap.get? b = some ob → (hideAll s.heap l).get? b = some ob := fun hb e => hideAll_get _ e hb
  obtain ⟨n0, N1⟩ := List.forall_mem_cons.mp N
  obtain ⟨n1, n2, n3, n4, n5, n6, n7, n8, n9, n10, n11, n12, n13, n14⟩ := news13 N1
  have k0 : Kp h₀ (hideAll s.heap [tr, tx, up, dp, pl]) := base_hide F _ (List.forall_mem_cons.mpr ⟨n4.2.2, List.forall_mem_cons.mpr ⟨n8.2.2, List.forall_mem_cons.mpr ⟨n7.2.2, List.forall_mem_cons.mpr ⟨n6.2.2, List.forall_mem_cons.mpr ⟨n5.2.2, List.forall_mem_nil _⟩⟩⟩⟩⟩)
  have hn80 : n ≤ 80 := Nat.le_trans lf.nk (Nat.le_trans (Nat.succ_le_succ hk) (by decide))
  refine wpAny_call (codeAny_mono (down_any (cR := 0) (cD := cD) (cU := cU) (cT := cT) (X.keeps k0) (TT.keeps k0) (fun b ob e => of_hideAll _ e) (Nat.le_of_eq (hideAll_size _ _)) ?N ⟨p3, p4, p5, p6⟩ ?lo lf.tS lf.tU lf.tD lf.hd lf.pl lf.tr lf.six lf.hn hn80 hroom hu) fun r s' hr => ?_)
  case N => exact List.forall_mem_cons.mpr ⟨⟨n5.1, hideAll_none _ (.tail _ (.tail _ (.tail _ (.tail _ (.head _)))))⟩, List.forall_mem_cons.mpr ⟨⟨n6.1, hideAll_none _ (.tail _ (.tail _ (.tail _ (.head _))))⟩, List.forall_mem_cons.mpr ⟨⟨n7.1, hideAll_none _ (.tail _ (.tail _ (.head _)))⟩, List.forall_mem_cons.mpr ⟨⟨n8.1, hideAll_none _ (.tail _ (.head _))⟩, List.forall_mem_cons.mpr ⟨⟨n4.1, hideAll_none _ (.head _)⟩, List.forall_mem_nil _⟩⟩⟩⟩⟩
  case lo => exact beq_eq_false_iff_ne.mpr (Nat.ne_of_gt (Nat.lt_trans (show @LT.lt Nat _ sysModules 178 from by decide) (Nat.lt_trans l0 (Nat.lt_trans p3 (Nat.lt_trans p4 p5)))))
  obtain ⟨h', tk, v, t, n', T', U', D', tv', uv', dv', o', kvs', cT', cU', cD', rfl, rfl, kk, e1, e2, e3, e4, e5, h1, h2, h3, h4, h5, h6, h7, h8, h9, h10, h11⟩ := hr
  have gk : ∀ {b : Addr} {ob : Obj}, b ∉ [tr, tx, up, dp, pl] → s.heap.get? b = some ob ∧ b ≠ L ∧ h₀.get? b = none → h'.get? b = some ob ∧ b ≠ L ∧ h₀.get? b = none := fun hb e => ⟨kk _ _ (g hb e.1), e.2⟩
  refine hQ h' tk v t n' T' U' D' tv' uv' dv' o' kvs' cT' cU' cD' ?_ ?_ (lf.down h1 h2 h3 h4 h5 h6 h7 h8 h9 h10 h11)
  · obtain ⟨oL, es, ep, hoL, r⟩ := F.ns
    exact ⟨⟨oL, es, ep, kk _ _ (g (q5 (.inl lL)) hoL), r⟩, fun b ob e => kk _ _ (k0 _ _ e), F.above⟩
  · refine List.forall_mem_cons.mpr ⟨gk (q5 (.inr (Nat.lt_trans p7 p8))) n0, news13_of (gk (q5 (.inr p7)) n1) (gk (q5 (.inr z2)) n2) (gk (q5 (.inr z1)) n3) ⟨e5 ▸ n4.1, n4.2⟩ ⟨e1, n5.2⟩ ⟨e2, n6.2⟩ ⟨e3, n7.2⟩ ⟨e4, n8.2⟩ (gk (q5 (.inl l4)) n9) (gk (q5 (.inl l3)) n10) (gk (q5 (.inl l2)) n11) (gk (q5 (.inl l1)) n12) (gk (q5 (.inl l0)) n13) fun q hq => gk ?_ (n14 q hq)⟩
    have := (la q hq).2
    simp only [List.mem_cons, not_or]
    exact ⟨this.2.2.2.2, this.1, this.2.1, this.2.2.1, this.2.2.2.1, fun h => nomatch h⟩
local macro_rules | `(tactic| walk_at "subscriptTail") => rul (qsub `PySem.Value.int) `subLN "AMDDr_S!" 0 'n'
local macro_rules | `(tactic| walk_at "subscriptTail") => rul (qsub `PySem.Value.int) `subI "AMAOOO_S!" 1 'n'
local macro_rules | `(tactic| k_all) => `(tactic| with_reducible assumption)
theorem law_0 (X : (hd.heap_1 w.params).In h₀) (TT : Top topProg lg mean mg mb h₀) (hroom : d ≤ 360) (hu : u ≤ 1500)
    (O : LO L tx up dp pl tr Dl I) (qI : h₀.get? I = none) (hk : k ≤ 43) (hb : AllBare gs) (F : Fr h₀ L h (mmL sc (some (.ref to)) (some (.ref ha)) a3 a4 (some (.int num tr5)) a6))
    (N : News h₀ L h ((I, oI) :: LN L tr tx up dp pl Dl ha to ws vs its tv uv dv cH cO cT cU cD o o1 o2 o3 o4 ps tn)) (C : LC tr here o1 o2 o3 o4) (lf : LF w k n here T U D tv uv dv o kvs told its vs tn ps) (la : LA L tx up dp pl tr I tn) (zz : @LT.lt Nat _ tr to ∧ @LT.lt Nat _ tr ha ∧ @Ne Nat to I ∧ @Ne Nat ha I) :
    wpAny (model prg w) ⟨none, d, some [lawE w L fa cd], gd, u⟩ (execs (act0 w) (lawE w L fa cd)) (AX w s h₀ L sc tr tx up dp pl Dl I ws (k + 1) a4 oI) E { s with heap := h, toks := tk, gens := gs } := by
  obtain ⟨p1, p2, p3, p4, p5, p6, p7, p8⟩ := id O
  obtain ⟨z1, z2, z3, z4⟩ := id zz
  obtain ⟨d1, ⟨th, d2⟩, ⟨c3, d3⟩, c4, d4⟩ := C
  have hA2 : ∀ q ∈ tn, @Ne Nat q.1 (L + 2) := fun q hq => (la q hq).1.2.2.1
  obtain ⟨x1, x2, x3, x4, x5, x6, x7, x8, x9, x10⟩ := O.cell (c := L + 2) (Nat.lt_add_of_pos_right (by decide)) O.low.2.2.1 z1 z2
  have y4 : @Ne Nat (L + 4) (L + 2) := cellNe (by decide)
  have y3 : @Ne Nat (L + 3) (L + 2) := cellNe (by decide)
  have y1 : @Ne Nat (L + 1) (L + 2) := cellNe (by decide)
  have hU := lf.tU
  have hn := lf.hn
  have hnk := lf.nk
  have h2 : ((here : Nat) : Int).toNat < n := by rw [Int.toNat_natCast]; exact hn
  unfold lawE lawSc scS act0 ibS
  unfold LN at N
  k_steps
  with_reducible rename Fr _ _ _ _ => kF
  with_reducible rename News _ _ _ _ => kN
  rename_i hd'
  refine AX.of hb kF kN ⟨d1, ⟨_, hd'⟩, ⟨_, d3⟩, _, d4⟩ (lf.stay ?_) la zz
  exact up_lt lf.uu lf.tr.root.2.1 h2
local macro_rules | `(tactic| walk_at "call ref") => do rul (some (← `(call (Value.ref 169) [Value.ref _, Value.int _ _, Value.int _ _]))) `down_use "AAOOAAAAAAA_" 0 'n'
set_option hygiene false in
theorem law_1 (X : (hd.heap_1 w.params).In h₀) (TT : Top topProg lg mean mg mb h₀) (hroom : d ≤ 360) (hu : u ≤ 1500)
    (O : LO L tx up dp pl tr Dl I) (qI : h₀.get? I = none) (hk : k ≤ 43) (hb : AllBare gs) (F : Fr h₀ L h (mmL sc (some (.ref to)) (some (.ref ha)) a3 a4 (some (.int num tr5)) a6))
    (N : News h₀ L h ((I, oI) :: LN L tr tx up dp pl Dl ha to ws vs its tv uv dv cH cO cT cU cD o o1 o2 o3 o4 ps tn)) (C : LC tr here o1 o2 o3 o4) (lf : LF w k n here T U D tv uv dv o kvs told its vs tn ps) (la : LA L tx up dp pl tr I tn) (zz : @LT.lt Nat _ tr to ∧ @LT.lt Nat _ tr ha ∧ @Ne Nat to I ∧ @Ne Nat ha I) :
    wpAny (model prg w) ⟨none, d, some [lawE w L fa cd], gd, u⟩ (execs (act1 w) (lawE w L fa cd)) (AX w s h₀ L sc tr tx up dp pl Dl I ws (k + 1) a4 oI) E { s with heap := h, toks := tk, gens := gs } := by
  obtain ⟨p1, p2, p3, p4, p5, p6, p7, p8⟩ := id O
  obtain ⟨z1, z2, z3, z4⟩ := id zz
  obtain ⟨d1, ⟨th, d2⟩, ⟨c3, d3⟩, c4, d4⟩ := C
  have hA2 : ∀ q ∈ tn, @Ne Nat q.1 (L + 2) := fun q hq => (la q hq).1.2.2.1
  obtain ⟨x1, x2, x3, x4, x5, x6, x7, x8, x9, x10⟩ := O.cell (c := L + 2) (Nat.lt_add_of_pos_right (by decide)) O.low.2.2.1 z1 z2
  have y4 : @Ne Nat (L + 4) (L + 2) := cellNe (by decide)
  have y3 : @Ne Nat (L + 3) (L + 2) := cellNe (by decide)
  have y1 : @Ne Nat (L + 1) (L + 2) := cellNe (by decide)
  have hk4 : k ≤ 44 := by omega
  unfold lawE lawSc scS act1 ibS
  k_steps
  with_reducible rename LF _ _ _ _ _ _ _ _ _ _ _ _ _ _ _ _ _ => lf'
  with_reducible rename Fr _ _ _ _ => kF
  with_reducible rename News _ _ _ _ => kN
  rename_i hd'
  exact AX.of hb kF kN ⟨d1, ⟨_, hd'⟩, ⟨_, d3⟩, _, d4⟩ lf' la zz
end
end Mine
local macro_rules | `(tactic| k_all) => `(tactic| with_reducible assumption)
namespace Mine
theorem resetLt : True := by
  k_with_none
  w_top off
  trivial
section
variable {w : World} {s : Shared} {mg mb : Str → Option Value} {mean : ExcName → Option Value} {d u : Nat} {gd : Option (List Code)} {E : Value → Shared → Prop} {Q : Flow → Shared → Prop} {L fa : Addr} {cd : Value} {h₀ : Heap}
variable {h : Heap} {tk : Nat} {gs : Array GenState} {told : List (Nat × Nat)} {its : List Value} {cO : Nat} {to : Addr} {vs : List Value} {cH : Nat} {ha : Addr} {here n : Nat} {T : Nat → Str} {U D : Nat → Nat} {tv uv dv : List Value} {o : Obj} {kvs : List (Str × Value)} {cT cU cD : Nat} {o1 o2 o3 o4 oI : Obj} {ps : Array Value} {tn : List (Addr × Obj)} {a3 a4 a5 a6 : Option Value}
variable {sc tr tx up dp pl Dl I : Addr} {ws : List Value} {k : Nat} {num : Int} {tr5 : Tok}
local macro_rules | `(tactic| walk_at "binaryOp Add ref ref") => rulx none `addN "AAMMX_" 3 'l' `(tactic| (simp only [List.length_append, List.length_cons, List.length_nil]; omega))
theorem names_use {mm : Str → Option Value} {fr : List Env} {E : Value → Shared → Prop} {Q : Value → Shared → Prop} {l : Addr} {news : List (Addr × Obj)} {v1 v2 v3 : Value} {its2 : List Value} {told2 : List (Nat × Nat)} {c2 : Nat} (X : (hd.heap_1 w.params).In h₀) (TT : Top topProg lg mean mg mb h₀) (hroom : d ≤ 380) (hu : u ≤ 2000)
    (F : Fr h₀ L s.heap mm) (N : News h₀ L s.heap news) (hr : (tr, listOf (List.toArray [.ref tx, v1, v2, v3]) 0) ∈ news) (hx : (tx, listOf (List.toArray tv) cT) ∈ news) (hT : TblS tv n T) (hTr : TreeOk n T U D) (hn : n ≤ 90) (hl : (l, listOf (List.toArray its2) c2) ∈ news) (tt : TupN its2 told2 news) (bd : ∀ x ∈ told2, x.1 < n ∧ x.2 ≤ 3) (hk : told2.length ≤ 500)
    (h : ∀ h' tk nd us c, Fr h₀ L h' mm → News h₀ L h' ((nd, listOf (List.toArray us) c) :: news) → (∀ q ∈ news, @LT.lt Nat _ q.1 nd ∨ s.heap.get? nd = none) → StrsAre us (told2.map (nm T)) → Q (.ref nd) { s with heap := h', toks := tk }) :
    wpAny (model prg w) ⟨none, d, some fr, gd, u⟩ (call (.ref 193) [.ref tr, .ref l]) Q E s := by
  refine wpAny_call (codeAny_mono (names_any (cR := 0) (X.keeps F.keep) (TT.keeps F.keep) (N _ hr).1 (N _ hx).1 hT hTr.short hn (N _ hl).1 (tt.tups N fun q hq => hq) bd hk hroom hu) fun r s' hr => ?_)
  obtain ⟨h', tk, nd, us, c, rfl, rfl, k, ⟨a1, a2⟩, a3⟩ := hr
  have out := out_of F a2
  exact h h' tk nd us c (F.keeps k) (List.forall_mem_cons.mpr ⟨⟨a1, out.2, out.1⟩, fun q hq => ⟨k _ _ (N q hq).1, (N q hq).2⟩⟩) (fun q hq => .inr a2) a3
theorem law_3 (X : (hd.heap_1 w.params).In h₀) (TT : Top topProg lg mean mg mb h₀) (hroom : d ≤ 360) (hu : u ≤ 1500)
    (O : LO L tx up dp pl tr Dl I) (qI : h₀.get? I = none) (hk : k ≤ 43) (hb : AllBare gs) (F : Fr h₀ L h (mmL sc (some (.ref to)) (some (.ref ha)) a3 a4 (some (.int num tr5)) a6))
    (N : News h₀ L h ((I, oI) :: LN L tr tx up dp pl Dl ha to ws vs its tv uv dv cH cO cT cU cD o o1 o2 o3 o4 ps tn)) (C : LC tr here o1 o2 o3 o4) (lf : LF w k n here T U D tv uv dv o kvs told its vs tn ps) (la : LA L tx up dp pl tr I tn) (zz : @LT.lt Nat _ tr to ∧ @LT.lt Nat _ tr ha ∧ @Ne Nat to I ∧ @Ne Nat ha I) :
    wpAny (model prg w) ⟨none, d, some [lawE w L fa cd], gd, u⟩ (execs (act3 w) (lawE w L fa cd)) (AX w s h₀ L sc tr tx up dp pl Dl I ws (k + 1) a4 oI) E { s with heap := h, toks := tk, gens := gs } := by
  obtain ⟨p1, p2, p3, p4, p5, p6, p7, p8⟩ := id O
  obtain ⟨z1, z2, z3, z4⟩ := id zz
  obtain ⟨d1, ⟨th, d2⟩, ⟨c3, d3⟩, c4, d4⟩ := C
  have hA2 : ∀ q ∈ tn, @Ne Nat q.1 (L + 2) := fun q hq => (la q hq).1.2.2.1
  have hk4 : k ≤ 44 := by omega
  obtain ⟨b1, b2, b3, b4⟩ := lf.len hk4
  unfold LN at N
  unfold lawE lawSc scS act3 ibS
  k_steps
  with_reducible rename Fr _ _ _ _ => kF
  with_reducible rename News _ _ _ _ => kN
  obtain ⟨q, hq⟩ : ∃ q : Nat, num.fmod 4 = ((q : Nat) : Int) := ⟨(num.fmod 4).toNat, by have := (fdiv_fmod_facts num 4).2.2.1 (by decide); omega⟩
  have hq3 : q ≤ 3 := by have := (fdiv_fmod_facts num 4).2.2.1 (by decide); omega
  rw [slice_last, hq] at kN
  rename_i tk0 t hp1 lt1 l1 hp2 lt2 to' hp3 lt3 h4 F4 N4 h5
  have hl3 : @LT.lt Nat _ tr to' ∧ @LT.lt Nat _ I to' := ⟨lt3 _ (.tail _ (.tail _ (.tail _ (.tail _ (.tail _ (.tail _ (.head _))))))), lt3 _ (.tail _ (.tail _ (.head _)))⟩
  refine' names_use (its2 := [.ref t]) (told2 := [(here, q)]) (tx := tx) (cT := cT) (c2 := 0) X TT ?y1 ?y2 kF kN ?y3 ?y4 lf.tS lf.tr ?y5 ?y6 ?y7 ?y8 ?y9 ?_
  case y1 => omega
  case y2 => omega
  case y3 => k_mem
  case y4 => k_mem
  case y5 => omega
  case y6 => k_mem
  case y7 =>
    refine ⟨rfl, fun i p' q' e => ?_⟩
    cases i with
    | zero => cases e; exact ⟨t, _, _, rfl, by k_mem⟩
    | succ i => simp at e
  case y8 =>
    intro x hx
    rw [List.mem_singleton.mp hx]
    exact ⟨lf.hn, hq3⟩
  case y9 => simp
  intro h6 tk6 nd us c6 F6 N6 _ hus
  have hul : us.length = 1 := by rw [hus.length]; rfl
  have hh1 : @LT.lt Nat _ tr h6.objs.size := Heap.lt_size (N6 (tr, _) (by k_mem)).1
  have hh2 : @LT.lt Nat _ I h6.objs.size := Heap.lt_size (N6 (I, _) (by k_mem)).1
  clear kF kN
  k_steps
  with_reducible rename Fr _ _ _ _ => kF
  with_reducible rename News _ _ _ _ => kN
  with_reducible rename StrsAre us _ => hu5
  refine AX.of (ha := h6.objs.size) (to := to') (vs := vs ++ us) (its := its ++ [.ref t]) (cH := 0) (cO := 0) (tn := [(t, pairO here q th (tk0 + 1))] ++ tn) hb (set_have kF mmL_told)
    (LN.mk kN (by k_mem) (by k_mem) (by k_mem) (by k_mem) (by k_mem) (by k_mem) (by k_mem) (by k_mem) (by k_mem) (by k_mem) (by k_mem) (by k_mem) (by k_mem) (by k_mem) ?mt) ⟨d1, ⟨_, d2⟩, ⟨_, d3⟩, _, d4⟩ (lf.tell lf.hn hq3 .one hu5) (la.cons ?ap) ⟨hl3.1, hh1, Nat.ne_of_gt hl3.2, Nat.ne_of_gt hh2⟩
  case mt =>
    refine List.forall_mem_cons.mpr ⟨?_, fun q hq => ?_⟩
    · k_mem
    · (repeat (first | assumption | refine' List.Mem.tail _ ?_))
  case ap => exact O.apartI lt1.1
end
end Mine
namespace Mine
theorem resetLu : True := by
  k_with_none
  w_top off
  trivial
section
variable {w : World} {s : Shared} {mg mb : Str → Option Value} {mean : ExcName → Option Value} {d u : Nat} {gd : Option (List Code)} {E : Value → Shared → Prop} {Q : Flow → Shared → Prop} {L fa : Addr} {cd : Value} {h₀ : Heap}
variable {h : Heap} {tk : Nat} {gs : Array GenState} {told : List (Nat × Nat)} {its : List Value} {cO : Nat} {to : Addr} {vs : List Value} {cH : Nat} {ha : Addr} {here n : Nat} {T : Nat → Str} {U D : Nat → Nat} {tv uv dv : List Value} {o : Obj} {kvs : List (Str × Value)} {cT cU cD : Nat} {o1 o2 o3 o4 oI : Obj} {ps : Array Value} {tn : List (Addr × Obj)} {a3 a4 a5 a6 : Option Value}
variable {sc tr tx up dp pl Dl I : Addr} {ws : List Value} {k : Nat} {num : Int} {tr5 : Tok}
theorem strOk_tl {x : Str} : PyData.strOk x = true ↔ ∀ c ∈ tl x, c < 1114112 := by
  unfold PyData.strOk
  rw [Array.all_eq_true_iff_forall_mem]
  exact ⟨fun h c hc => of_decide_eq_true (h c (Array.mem_def.mpr hc)), fun h c hc => decide_eq_true (h c (Array.mem_def.mp hc))⟩
theorem okN (h : TreeOk n T U D) {x : Nat × Nat} (hx : x.1 < n) : PyData.strOk (nm T x) = true := by
  have h1 := strOk_tl.mp (h.ok _ hx)
  refine strOk_tl.mpr fun c hc => ?_
  unfold nm at hc
  rw [tl_add, tl_mul] at hc
  rcases List.mem_append.mp hc with hc | hc
  · exact h1 c hc
  · rw [(List.mem_replicate.mp hc).2]; decide
theorem law_C {act : Int} {ta : Tok} (X : (hd.heap_1 w.params).In h₀) (TT : Top topProg lg mean mg mb h₀) (hroom : d ≤ 360) (hu : u ≤ 1500)
    (O : LO L tx up dp pl tr Dl I) (qI : h₀.get? I = none) (hk : k ≤ 44) (hb : AllBare gs) (F : Fr h₀ L h (mmL sc (some (.ref to)) (some (.ref ha)) a3 (some (.int act ta)) a5 a6))
    (N : News h₀ L h ((I, oI) :: LN L tr tx up dp pl Dl ha to ws vs its tv uv dv cH cO cT cU cD o o1 o2 o3 o4 ps tn)) (C : LC tr here o1 o2 o3 o4) (lf : LF w k n here T U D tv uv dv o kvs told its vs tn ps) (la : LA L tx up dp pl tr I tn) (zz : @LT.lt Nat _ tr to ∧ @LT.lt Nat _ tr ha ∧ @Ne Nat to I ∧ @Ne Nat ha I) :
    wpAny (model prg w) ⟨none, d, some [lawE w L fa cd], gd, u⟩ (execs (actC w) (lawE w L fa cd)) (AX w s h₀ L sc tr tx up dp pl Dl I ws k (some (.int act ta)) oI) E { s with heap := h, toks := tk, gens := gs } := by
  obtain ⟨p1, p2, p3, p4, p5, p6, p7, p8⟩ := id O
  obtain ⟨z1, z2, z3, z4⟩ := id zz
  obtain ⟨d1, ⟨th, d2⟩, ⟨c3, d3⟩, c4, d4⟩ := C
  have hA2 : ∀ q ∈ tn, @Ne Nat q.1 (L + 2) := fun q hq => (la q hq).1.2.2.1
  obtain ⟨b1, b2, b3, b4⟩ := lf.len hk
  unfold LN at N
  unfold lawE lawSc scS actC idS
  k_steps
  · refine' names_use (its2 := its) (told2 := told) (tx := tx) (cT := cT) (c2 := cO) X TT ?y1 ?y2 F N ?y3 ?y4 lf.tS lf.tr ?y5 ?y6 ?y7 lf.bd ?y9 ?_
    case y1 => omega
    case y2 => omega
    case y3 => k_mem
    case y4 => k_mem
    case y5 => omega
    case y6 => k_mem
    case y7 =>
      refine ⟨lf.tup.1, fun i p q e => ?_⟩
      obtain ⟨a, t1, t2, e1, e2⟩ := lf.tup.2 i p q e
      exact ⟨a, t1, t2, e1, by (repeat (first | assumption | refine' List.Mem.tail _ ?_))⟩
    case y9 => omega
    intro h6 tk6 nd us c6 F6 N6 _ hus
    refine ne_strs ⟨_, (N6 (ha, _) (by k_mem)).1, rfl, _, rfl⟩ lf.hv ⟨_, (N6 _ (.head _)).1, rfl, _, rfl⟩ hus (fun x hx => ?_) (show u + 64 < cLine from by unfold cLine; omega) ?_
    · obtain ⟨y, hy, rfl⟩ := List.mem_map.mp hx
      exact okN lf.tr (lf.bd y hy).1
    refine wpAny_truthy_bool ?_
    rw [if_neg Bool.false_ne_true, if_neg Bool.false_ne_true]
    k_steps
    exact AX.of hb F6 (fun q hq => N6 q (.tail _ hq)) ⟨d1, ⟨_, d2⟩, ⟨_, d3⟩, _, d4⟩ lf la zz
  · exact AX.of hb F N ⟨d1, ⟨_, d2⟩, ⟨_, d3⟩, _, d4⟩ lf la zz
end
end Mine
namespace Plain
theorem ded_append : ∀ (l r S : List Nat), ded S (l ++ r) = ded S l ++ ded (l ++ S) r
  | [], r, S => rfl
  | a :: l, r, S => by
    simp only [List.cons_append, ded]
    by_cases ha : a ∈ S
    · rw [if_pos ha, if_pos ha, ded_append l r S]
      congr 1
      refine ded_congr _ _ _ fun x => ?_
      constructor
      · exact fun h => .tail _ h
      · intro h
        rcases List.mem_cons.mp h with h | h
        · rw [h]; exact List.mem_append_right _ ha
        · exact h
    · rw [if_neg ha, if_neg ha, ded_append l r (a :: S), List.cons_append]
      congr 2
      refine ded_congr _ _ _ fun x => ?_
      simp only [List.mem_append, List.mem_cons]
      constructor
      · rintro (h | h | h)
        · exact .inr (.inl h)
        · exact .inl h
        · exact .inr (.inr h)
      · rintro (h | h | h)
        · exact .inr (.inl h)
        · exact .inl h
        · exact .inr (.inr h)
theorem mem_ded {x : Nat} : ∀ (l S : List Nat), x ∈ ded S l ↔ x ∈ l ∧ x ∉ S
  | [], S => by simp [ded]
  | a :: l, S => by
    simp only [ded]
    by_cases ha : a ∈ S
    · rw [if_pos ha, mem_ded l S, List.mem_cons]
      constructor
      · exact fun h => ⟨.inr h.1, h.2⟩
      · rintro ⟨h | h, h2⟩
        · exact absurd (h ▸ ha) h2
        · exact ⟨h, h2⟩
    · rw [if_neg ha, List.mem_cons, mem_ded l (a :: S), List.mem_cons, List.mem_cons]
      constructor
      · rintro (h | h)
        · exact ⟨.inl h, h ▸ ha⟩
        · exact ⟨.inr h.1, fun z => h.2 (.inr z)⟩
      · rintro ⟨h | h, h2⟩
        · exact .inl h
        · by_cases z : x = a
          · exact .inl z
          · exact .inr ⟨h, fun q => q.elim z h2⟩
theorem ded_filter {P : Nat → Bool} : ∀ (l S S' : List Nat), (∀ x, P x = true → (x ∈ S ↔ x ∈ S')) → ded S (l.filter P) = (ded S' l).filter P
  | [], S, S', _ => rfl
  | a :: l, S, S', h => by
    by_cases hp : P a = true
    · rw [List.filter_cons_of_pos hp]
      simp only [ded]
      by_cases ha : a ∈ S
      · rw [if_pos ha, if_pos ((h a hp).mp ha)]; exact ded_filter l S S' h
      · rw [if_neg ha, if_neg fun z => ha ((h a hp).mpr z), List.filter_cons_of_pos hp]
        congr 1
        exact ded_filter l _ _ fun x hx => by simp [h x hx]
    · rw [List.filter_cons_of_neg hp]
      simp only [ded]
      by_cases ha : a ∈ S'
      · rw [if_pos ha]; exact ded_filter l S S' h
      · rw [if_neg ha, List.filter_cons_of_neg hp]
        refine ded_filter l S (a :: S') fun x hx => ?_
        rw [h x hx, List.mem_cons]
        exact ⟨.inr, fun z => z.elim (fun e => absurd (e ▸ hx) hp) id⟩
end Plain
namespace Mine
section
variable {n : Nat} {U : Nat → Nat}
theorem up_closed (hU : Plain.Up n U) {K : List Nat} (h : ∀ q ∈ K, U q = 0 ∨ U q ∈ K) : ∀ p, p < n → p ∈ K → ∀ x ∈ Plain.up U p, x ∈ K := by
  intro p
  induction p using Nat.strongRecOn with
  | ind p ih =>
    intro hn hp x hx
    rcases Nat.eq_zero_or_pos p with z | z
    · rw [z, Plain.up_zero] at hx; cases hx
    · rw [Plain.up_eq hU z hn] at hx
      rcases List.mem_cons.mp hx with e | hx
      · rw [e]; exact hp
      · have hl := hU p z hn
        rcases h p hp with e | e
        · rw [e, Plain.up_zero] at hx; cases hx
        · exact ih _ hl (by omega) e x hx
theorem climb_ded {i : Nat} (hU : Plain.Up n U) : ∀ (f : Nat) (F : List (Nat × Nat)) (p : Nat), p < f → p < n → (∀ q ∈ F.map Prod.fst, U q = 0 ∨ U q ∈ F.map Prod.fst ∨ U q = p) →
    (climb U i f F p).map Prod.fst = F.map Prod.fst ++ Plain.ded (F.map Prod.fst) (Plain.up U p) ∧ ∀ q ∈ (climb U i f F p).map Prod.fst, U q = 0 ∨ U q ∈ (climb U i f F p).map Prod.fst
  | 0, F, p, h, _, _ => absurd h (Nat.not_lt_zero _)
  | f + 1, F, p, h, hp, hc => by
    unfold climb
    by_cases z : p = 0 ∨ p ∈ F.map Prod.fst
    · rw [if_pos z]
      have hc2 : ∀ q ∈ F.map Prod.fst, U q = 0 ∨ U q ∈ F.map Prod.fst := fun q hq => by
        rcases hc q hq with a | a | a
        · exact .inl a
        · exact .inr a
        · rcases z with z | z
          · exact .inl (a.trans z)
          · exact .inr (a ▸ z)
      refine ⟨?_, hc2⟩
      have e : Plain.ded (F.map Prod.fst) (Plain.up U p) = [] := by
        have := Plain.ded_skip (Plain.up U p) [] (F.map Prod.fst) (fun x hx => by
          rcases z with z | z
          · rw [z, Plain.up_zero] at hx; cases hx
          · exact up_closed hU hc2 p hp z x hx)
        rw [List.append_nil] at this
        exact this
      rw [e, List.append_nil]
    · rw [if_neg z]
      have z' := not_or.mp z
      have hl := hU p (Nat.pos_of_ne_zero z'.1) hp
      obtain ⟨a, b⟩ := climb_ded (i := i) hU f (F ++ [(p, i)]) (U p) (by omega) (by omega) (fun q hq => by
        rw [List.map_append] at hq ⊢
        rcases List.mem_append.mp hq with hq | hq
        · rcases hc q hq with x | x | x
          · exact .inl x
          · exact .inr (.inl (List.mem_append_left _ x))
          · exact .inr (.inl (List.mem_append_right _ (by rw [x]; exact .head _)))
        · have e : q = p := by simpa using hq
          exact .inr (.inr (by rw [e])))
      refine ⟨?_, b⟩
      rw [a, Plain.up_eq hU (Nat.pos_of_ne_zero z'.1) hp, List.map_append]
      simp only [List.map_cons, List.map_nil, Plain.ded]
      rw [if_neg z'.2, List.append_assoc]
      congr 1
      show [p] ++ _ = [p] ++ _
      congr 1
      refine Plain.ded_congr _ _ _ fun x => ?_
      simp only [List.mem_append, List.mem_cons, List.not_mem_nil, or_false]
      exact Or.comm
theorem firsts_ded (hU : Plain.Up n U) (h0 : U 0 = 0) {told : List (Nat × Nat)} (bd : ∀ x ∈ told, x.1 < n) : (firsts U told).map Prod.fst = Plain.ded [] (told.flatMap fun x => Plain.up U (U x.1)) := by
  have key : ∀ k, k ≤ told.length → (firsts U (told.take k)).map Prod.fst = Plain.ded [] ((told.take k).flatMap fun x => Plain.up U (U x.1)) ∧ ∀ q ∈ (firsts U (told.take k)).map Prod.fst, U q = 0 ∨ U q ∈ (firsts U (told.take k)).map Prod.fst := by
    intro k
    induction k with
    | zero => intro _; exact ⟨rfl, fun x hx => nomatch hx⟩
    | succ k ih =>
      intro hk
      obtain ⟨a, b⟩ := ih (Nat.le_of_succ_le hk)
      obtain ⟨⟨p, q⟩, hx⟩ : ∃ x, told[k]? = some x := ⟨_, List.getElem?_eq_getElem hk⟩
      rw [firsts_snoc hx]
      have hp := bd _ (List.mem_of_getElem? hx)
      obtain ⟨c, e⟩ := climb_ded (i := k) hU (U p + 1) (firsts U (told.take k)) (U p) (Nat.lt_succ_self _) (up_lt hU h0 hp) (fun q hq => (b q hq).elim .inl fun z => .inr (.inl z))
      refine ⟨?_, e⟩
      rw [c, a, List.take_add_one, hx, List.flatMap_append, Plain.ded_append]
      congr 1
      simp only [Option.toList_some, List.flatMap_cons, List.flatMap_nil, List.append_nil]
      refine Plain.ded_congr _ _ _ fun x => ?_
      rw [Plain.mem_ded]
      exact ⟨fun h => h.1, fun h => ⟨h, fun z => nomatch z⟩⟩
  have := (key told.length (Nat.le_refl _)).1
  rwa [List.take_length] at this
theorem mark_up {here : Nat} (hU : Plain.Up n U) : ∀ p, p < n → mark U here p = decide (here ∈ Plain.up U p) := by
  intro p
  induction p using Nat.strongRecOn with
  | ind p ih =>
    intro hn
    rcases Nat.eq_zero_or_pos p with z | z
    · rw [z, mark_zero, Plain.up_zero]; simp
    · have hl := hU p z hn
      rw [mark_at hU z hn, Plain.up_eq hU z hn, ih _ hl (by omega)]
      by_cases e : p = here
      · simp [e]
      · have e' : ¬ here = p := fun q => e q.symm
        simp [e, e']
variable {T : Nat → Str} {D : Nat → Nat}
theorem stripN (h : TreeOk n T U D) {x : Nat × Nat} (hx : x.1 < n) : Txt.rstripChars (nm T x) slash = T x.1 := by
  unfold nm
  rcases Nat.eq_zero_or_pos x.1 with z | z
  · rw [z]
    refine str_eq (rstrip_tl (a := tl (T 0)) (k := x.2) (by rw [tl_add, tl_mul]) (.inl (by rw [h.root.1])))
  · exact h.strip z hx x.2
theorem ancNm (h : TreeOk n T U D) {x : Nat × Nat} (hx : x.1 < n) : Anc (Txt.rstripChars (nm T x) slash) ((Plain.up U x.1).map T) := by
  rw [stripN h hx]
  rcases Nat.eq_zero_or_pos x.1 with z | z
  · rw [z, Plain.up_zero]
    have := stripN h (x := (0, 0)) h.pos
    refine .nil ?_
    rw [h.root.1]
    decide +kernel
  · exact h.anc _ z hx
theorem nm_fst (h : TreeOk n T U D) {x y : Nat × Nat} (hx : x.1 < n) (hy : y.1 < n) (e : nm T x = nm T y) : x.1 = y.1 := by
  have := stripN h hx
  rw [e, stripN h hy] at this
  exact (h.inj _ _ hy hx this).symm
theorem nm_inj (h : TreeOk n T U D) {x y : Nat × Nat} (hx : x.1 < n) (hy : y.1 < n) (e : nm T x = nm T y) : x = y := by
  have e1 := nm_fst h hx hy e
  refine Prod.ext e1 ?_
  have e2 := congrArg tl e
  unfold nm at e2
  rw [tl_add, tl_add, tl_mul, tl_mul, e1] at e2
  have := congrArg List.length (List.append_cancel_left e2)
  simpa using this
theorem nm_one {q : Nat} : T q ++ Str.ofString "/" = nm T (q, 1) := by
  unfold nm
  congr 1
theorem mem_names (h : TreeOk n T U D) {told : List (Nat × Nat)} (bd : ∀ x ∈ told, x.1 < n) {x : Nat × Nat} (hx : x.1 < n) : nm T x ∈ told.map (nm T) ↔ x ∈ told := by
  refine ⟨fun hm => ?_, fun hm => List.mem_map_of_mem hm⟩
  obtain ⟨y, hy, e⟩ := List.mem_map.mp hm
  rw [← nm_inj h (bd y hy) hx e]; exact hy
/-- what goes: the names of the pairs that Q takes -/
theorem sel_names (h : TreeOk n T U D) {told : List (Nat × Nat)} (bd : ∀ x ∈ told, x.1 < n) {Q : Nat × Nat → Bool} : sel (told.map (nm T)) ((told.filter Q).map (nm T)) = (told.filter (fun x => !Q x)).map (nm T) := by
  unfold sel
  rw [List.filter_map]
  congr 1
  refine List.filter_congr fun x hx => ?_
  have : nm T x ∈ (told.filter Q).map (nm T) ↔ Q x = true := by
    rw [mem_names h (fun y hy => bd y (List.mem_filter.mp hy).1) (bd x hx), List.mem_filter]
    exact ⟨fun z => z.2, fun z => ⟨hx, z⟩⟩
  simp only [Function.comp, this]
  cases Q x <;> rfl
/-- the places above the told ones, a name's own first -/
noncomputable def abv (U : Nat → Nat) (told : List (Nat × Nat)) : List Nat := told.flatMap fun x => Plain.up U (U x.1)
theorem abv_lt (hU : Plain.Up n U) (h0 : U 0 = 0) {told : List (Nat × Nat)} (bd : ∀ x ∈ told, x.1 < n) : ∀ q ∈ abv U told, q < n := fun q hq => by
  obtain ⟨x, hx, hq⟩ := List.mem_flatMap.mp hq
  exact (Plain.up_lt hU _ (up_lt hU h0 (bd x hx)) q hq).1
/-- act 6: what are parents, a slash behind, goes -/
theorem sel_parents (h : TreeOk n T U D) (hU : Plain.Up n U) {told : List (Nat × Nat)} (bd : ∀ x ∈ told, x.1 < n) :
    sel (told.map (nm T)) ((abv U told).map fun q => nm T (q, 1)) = (told.filter (fun x => !(decide (x.2 = 1) && decide (x.1 ∈ (firsts U told).map Prod.fst)))).map (nm T) := by
  unfold sel
  rw [List.filter_map]
  congr 1
  refine List.filter_congr fun x hx => ?_
  have : nm T x ∈ ((abv U told).map fun q => nm T (q, 1)) ↔ (x.2 = 1 ∧ x.1 ∈ (firsts U told).map Prod.fst) := by
    rw [firsts_ded hU h.root.2.1 bd, Plain.mem_ded]
    constructor
    · intro hm
      obtain ⟨q, hq, e⟩ := List.mem_map.mp hm
      have := nm_inj h (abv_lt hU h.root.2.1 bd q hq) (bd x hx) e
      rw [← this]
      exact ⟨rfl, hq, fun z => nomatch z⟩
    · rintro ⟨e, hq, _⟩
      refine List.mem_map.mpr ⟨x.1, hq, ?_⟩
      rw [← e]
  simp only [Function.comp, this]
  by_cases e1 : x.2 = 1 <;> by_cases e2 : x.1 ∈ (firsts U told).map Prod.fst <;> simp [e1, e2]
/-- act 5: what joins -/
theorem joins (h : TreeOk n T U D) (hU : Plain.Up n U) {told : List (Nat × Nat)} (bd : ∀ x ∈ told, x.1 < n) :
    (fk (sel ((abv U told).map fun q => nm T (q, 1)) (told.map (nm T)))).map (·.1) = ((missing U told).map fun q => (q, 1)).map (nm T) := by
  have hl := abv_lt hU h.root.2.1 bd
  have e1 : sel ((abv U told).map fun q => nm T (q, 1)) (told.map (nm T)) = ((abv U told).filter fun q => !decide ((q, 1) ∈ told)).map fun q => nm T (q, 1) := by
    unfold sel
    rw [List.filter_map]
    congr 1
    refine List.filter_congr fun q hq => ?_
    simp only [Function.comp, mem_names h bd (x := (q, 1)) (hl q hq)]
    by_cases z : (q, 1) ∈ told <;> simp [z]
  rw [e1, fk_map (n := n) (T := fun q => nm T (q, 1)) (fun i j hi hj e => nm_fst h (x := (i, 1)) (y := (j, 1)) hi hj e) (fun x hx => hl x (List.mem_filter.mp hx).1)]
  rw [Plain.ded_filter _ [] [] (fun _ _ => Iff.rfl), List.map_map]
  unfold missing
  rw [firsts_ded hU h.root.2.1 bd]
  rfl
/-- how many places are told with one slash -/
noncomputable def cnt (n : Nat) (told : List (Nat × Nat)) : Nat := ((List.range n).filter (fun q => decide ((q, 1) ∈ told))).length
theorem count_or {α : Type} {p q r : α → Bool} : ∀ (l : List α), (∀ x ∈ l, p x = true → q x = true ∨ r x = true) → (l.filter p).length ≤ (l.filter q).length + (l.filter r).length
  | [], _ => Nat.zero_le _
  | a :: l, h => by
    have ih := count_or (p := p) (q := q) (r := r) l fun x hx => h x (.tail _ hx)
    have ha := h a (.head _)
    simp only [List.filter_cons]
    by_cases hp : p a = true
    · rcases ha hp with hq | hr
      · rw [if_pos hp, if_pos hq]
        by_cases hr : r a = true
        · rw [if_pos hr]; simp only [List.length_cons]; omega
        · rw [if_neg hr]; simp only [List.length_cons]; omega
      · rw [if_pos hp, if_pos hr]
        by_cases hq : q a = true
        · rw [if_pos hq]; simp only [List.length_cons]; omega
        · rw [if_neg hq]; simp only [List.length_cons]; omega
    · rw [if_neg hp]
      by_cases hr : r a = true <;> by_cases hq : q a = true <;> simp only [hr, hq, if_true, if_false, List.length_cons] <;> simp <;> omega
theorem count_one {α : Type} {p : α → Bool} : ∀ (l : List α), l.Nodup → (∀ a b, p a = true → p b = true → a = b) → (l.filter p).length ≤ 1
  | [], _, _ => Nat.zero_le _
  | a :: l, hn, h => by
    rw [List.nodup_cons] at hn
    by_cases hp : p a = true
    · rw [List.filter_cons_of_pos hp]
      have : l.filter p = [] := List.filter_eq_nil_iff.mpr fun x hx hpx => hn.1 (h a x hp hpx ▸ hx)
      rw [this]; exact Nat.le_refl _
    · rw [List.filter_cons_of_neg hp]; exact count_one l hn.2 h
theorem cnt_le : ∀ (l : List (Nat × Nat)), cnt n l ≤ l.length
  | [] => by unfold cnt; simp
  | x :: l => by
    have ih := cnt_le l
    have h1 := count_or (p := fun q => decide ((q, 1) ∈ x :: l)) (q := fun q => decide ((q, 1) = x)) (r := fun q => decide ((q, 1) ∈ l)) (List.range n) fun q _ hq => by simpa using hq
    have h2 := count_one (p := fun q => decide ((q, 1) = x)) (List.range n) List.nodup_range fun a b ha hb => by
      have ha := of_decide_eq_true ha
      have hb := of_decide_eq_true hb
      rw [← hb] at ha
      exact (Prod.mk.inj ha).1
    unfold cnt at ih ⊢
    rw [List.length_cons]; omega
theorem cnt_filter {told : List (Nat × Nat)} {P : Nat × Nat → Bool} : (told.filter P).length + cnt n told ≤ told.length + cnt n (told.filter P) := by
  have h1 : cnt n told ≤ cnt n (told.filter P) + cnt n (told.filter fun x => !P x) := count_or _ fun q _ hq => by
    have hq := of_decide_eq_true hq
    by_cases z : P (q, 1) = true
    · exact .inl (decide_eq_true (List.mem_filter.mpr ⟨hq, z⟩))
    · exact .inr (decide_eq_true (List.mem_filter.mpr ⟨hq, by simpa using z⟩))
  have h2 := cnt_le (n := n) (told.filter fun x => !P x)
  have h3 : told.length = (told.filter P).length + (told.filter fun x => !P x).length := by
    have := List.length_eq_countP_add_countP P (l := told)
    rw [List.countP_eq_length_filter, List.countP_eq_length_filter] at this
    rw [this]
    congr 2
    refine List.filter_congr fun x _ => ?_
    cases P x <;> rfl
  omega
theorem count_more {α : Type} {p q : α → Bool} {x : α} : ∀ (l : List α), (∀ y, p y = true → q y = true) → x ∈ l → q x = true → p x ≠ true → (l.filter p).length + 1 ≤ (l.filter q).length
  | a :: l, h, hx, hq, hp => by
    rcases List.mem_cons.mp hx with e | hx
    · rw [← e, List.filter_cons_of_neg hp, List.filter_cons_of_pos hq, List.length_cons]
      exact Nat.succ_le_succ (filter_len_mono h)
    · have ih := count_more l h hx hq hp
      by_cases z : p a = true
      · rw [List.filter_cons_of_pos z, List.filter_cons_of_pos (h a z), List.length_cons, List.length_cons]; omega
      · rw [List.filter_cons_of_neg z]
        by_cases z2 : q a = true
        · rw [List.filter_cons_of_pos z2, List.length_cons]; omega
        · rw [List.filter_cons_of_neg z2]; omega
theorem cnt_more : ∀ (M : List Nat) (told : List (Nat × Nat)), M.Nodup → (∀ q ∈ M, q < n ∧ (q, 1) ∉ told) → cnt n told + M.length ≤ cnt n (told ++ M.map fun q => (q, 1))
  | [], told, _, _ => by simp
  | q :: M, told, hn, h => by
    rw [List.nodup_cons] at hn
    have ih := cnt_more M (told ++ [(q, 1)]) hn.2 fun x hx => ⟨(h x (.tail _ hx)).1, fun hm => by
      rcases List.mem_append.mp hm with hm | hm
      · exact (h x (.tail _ hx)).2 hm
      · have e : x = q := by simpa using hm
        exact hn.1 (e ▸ hx)⟩
    have h1 : cnt n told + 1 ≤ cnt n (told ++ [(q, 1)]) := count_more (x := q) _ (fun y hy => decide_eq_true (List.mem_append_left _ (of_decide_eq_true hy))) (List.mem_range.mpr (h q (.head _)).1) (decide_eq_true (List.mem_append_right _ (.head _))) (fun z => (h q (.head _)).2 (of_decide_eq_true z))
    rw [List.append_assoc] at ih
    rw [List.length_cons, List.map_cons]
    show _ ≤ cnt n (told ++ ([(q, 1)] ++ _))
    omega
end
end Mine
namespace Mine
theorem resetLw : True := by
  k_with_none
  w_top off
  trivial
section
variable {w : World} {s : Shared} {mg mb : Str → Option Value} {mean : ExcName → Option Value} {d u : Nat} {gd : Option (List Code)} {E : Value → Shared → Prop} {Q : Flow → Shared → Prop} {L fa : Addr} {cd : Value} {h₀ : Heap}
variable {h : Heap} {tk : Nat} {gs : Array GenState} {told : List (Nat × Nat)} {its : List Value} {cO : Nat} {to : Addr} {vs : List Value} {cH : Nat} {ha : Addr} {here n : Nat} {T : Nat → Str} {U D : Nat → Nat} {tv uv dv : List Value} {o : Obj} {kvs : List (Str × Value)} {cT cU cD : Nat} {o1 o2 o3 o4 oI : Obj} {ps : Array Value} {tn : List (Addr × Obj)} {a3 a4 a5 a6 : Option Value}
variable {sc tr tx up dp pl Dl I : Addr} {ws : List Value} {k : Nat} {num : Int} {tr5 : Tok}
noncomputable def tlS (L : List Stmt) {a : Stmt} {l : List Stmt} (_ : L = a :: l) : List Stmt := l
noncomputable def a7b (w : World) : List Stmt := tlS (tlS (act7 w) rfl) rfl
theorem under_use {mm : Str → Option Value} {fr : List Env} {E : Value → Shared → Prop} {Q : Value → Shared → Prop} {th : Tok} {news : List (Addr × Obj)} (X : (hd.heap_1 w.params).In h₀) (TT : Top topProg lg mean mg mb h₀) (hroom : d ≤ 380) (hu : u ≤ 2000)
    (F : Fr h₀ L s.heap mm) (N : News h₀ L s.heap news) (hl : (up, listOf (List.toArray uv) cU) ∈ news) (hi : TblI uv n U) (hn : n ≤ 90) (h1 : 1 ≤ n) (hU : Plain.Up n U)
    (h : ∀ h' tk mk mv c, Fr h₀ L h' mm → News h₀ L h' ((mk, listOf (List.toArray mv) c) :: news) → (∀ q ∈ news, @Ne Nat q.1 mk) → TblB mv n (mark U here) → Q (.ref mk) { s with heap := h', toks := tk }) :
    wpAny (model prg w) ⟨none, d, some fr, gd, u⟩ (call (.ref 188) [.ref up, .int (here : Nat) th]) Q E s := by
  refine wpAny_call (codeAny_mono (under_any (X.keeps F.keep) (TT.keeps F.keep) (N _ hl).1 hi hn h1 hU hroom hu) fun r s' hr => ?_)
  obtain ⟨h', tk, mk, mv, c, rfl, rfl, k, ⟨a1, a2⟩, a3⟩ := hr
  have out := out_of F a2
  refine h h' tk mk mv c (F.keeps k) (List.forall_mem_cons.mpr ⟨⟨a1, out.2, out.1⟩, fun q hq => ⟨k _ _ (N q hq).1, (N q hq).2⟩⟩) (fun q hq z => ?_) a3
  have := (N q hq).1
  rw [show q.1 = mk from z, a2] at this; cases this
local macro_rules | `(tactic| walk_at "subscriptTail") => `(tactic| (k_here; k_dflt (refine stayHere ?_)))
local macro_rules | `(tactic| walk_at "subscriptTail") => rul (qsub `PySem.Value.int) `subLN "AMDDr_S!" 0 'n'
local macro_rules | `(tactic| walk_at "exec Assign cons ListComp") => rul none `assign_comp "SRRD_" 0 'n'
local macro_rules | `(tactic| walk_at "call ref") => do rul (some (← `(call (Value.ref 188) [Value.ref _, Value.int _ _]))) `under_use "AAOOAAMAOOA_" 0 'n'
noncomputable def Fin7 (w : World) (s : Shared) (h₀ : Heap) (L fa : Addr) (cd : Value) (sc : Addr) (d u : Nat) (gd : Option (List Code)) (Q : Flow → Shared → Prop) (E : Value → Shared → Prop) (gs : Array GenState) (tr tx up dp pl Dl ha I : Addr) (oI : Obj) (ws vs tv uv dv : List Value) (cH cT cU cD : Nat) (o o1 o2 o3 : Obj) (ps : Array Value) (tn : List (Addr × Obj)) (told' : List (Nat × Nat)) (a3 a4 a5 a6 : Option Value) : Prop :=
  ∀ h tk to its cO o4 c4, Fr h₀ L h (mmL sc (some (.ref to)) (some (.ref ha)) a3 a4 a5 a6) → News h₀ L h ((I, oI) :: LN L tr tx up dp pl Dl ha to ws vs its tv uv dv cH cO cT cU cD o o1 o2 o3 o4 ps tn) → o4.data = .cell c4 → TupN its told' tn → (@LT.lt Nat _ tr to ∧ @Ne Nat to I) →
    wpAny (model prg w) ⟨none, d, some [lawE w L fa cd], gd, u⟩ (execs (a7b w) (lawE w L fa cd)) Q E { s with heap := h, toks := tk, gens := gs }
theorem law_7a (X : (hd.heap_1 w.params).In h₀) (TT : Top topProg lg mean mg mb h₀) (hroom : d ≤ 360) (hu : u ≤ 1500)
    (O : LO L tx up dp pl tr Dl I) (qI : h₀.get? I = none) (hk : k ≤ 43) (hb : AllBare gs) (F : Fr h₀ L h (mmL sc (some (.ref to)) (some (.ref ha)) a3 a4 a5 a6))
    (N : News h₀ L h ((I, oI) :: LN L tr tx up dp pl Dl ha to ws vs its tv uv dv cH cO cT cU cD o o1 o2 o3 o4 ps tn)) (C : LC tr here o1 o2 o3 o4) (lf : LF w k n here T U D tv uv dv o kvs told its vs tn ps) (la : LA L tx up dp pl tr I tn) (zz : @LT.lt Nat _ tr to ∧ @LT.lt Nat _ tr ha ∧ @Ne Nat to I ∧ @Ne Nat ha I)
    (fin : Fin7 w s h₀ L fa cd sc d u gd Q E gs tr tx up dp pl Dl ha I oI ws vs tv uv dv cH cT cU cD o o1 o2 o3 ps tn (told.filter (fun x => !mark U here x.1)) a3 a4 a5 a6) :
    wpAny (model prg w) ⟨none, d, some [lawE w L fa cd], gd, u⟩ (execs (act7 w) (lawE w L fa cd)) Q E { s with heap := h, toks := tk, gens := gs } := by
  obtain ⟨p1, p2, p3, p4, p5, p6, p7, p8⟩ := id O
  obtain ⟨z1, z2, z3, z4⟩ := id zz
  obtain ⟨d1, ⟨th, d2⟩, ⟨c3, d3⟩, c4, d4⟩ := C
  have hA2 : ∀ q ∈ tn, @Ne Nat q.1 (L + 2) := fun q hq => (la q hq).1.2.2.1
  have hA3 : ∀ q ∈ tn, @Ne Nat q.1 (L + 3) := fun q hq => (la q hq).1.2.2.2.1
  have hA4 : ∀ q ∈ tn, @Ne Nat q.1 (L + 4) := fun q hq => (la q hq).1.2.2.2.2
  have hk4 : k ≤ 44 := by omega
  obtain ⟨b1, b2, b3, b4⟩ := lf.len hk4
  obtain ⟨x1, x2, x3, x4, x5, x6, x7, x8, x9, x10⟩ := O.cell (c := L + 4) (Nat.lt_add_of_pos_right (by decide)) O.low.1 z1 z2
  have y3 : @Ne Nat (L + 3) (L + 4) := cellNe (by decide)
  have y2 : @Ne Nat (L + 2) (L + 4) := cellNe (by decide)
  have y1 : @Ne Nat (L + 1) (L + 4) := cellNe (by decide)
  have hTU := lf.tU
  have hUp := lf.uu
  have h1n : 1 ≤ n := lf.tr.pos
  have hn9 : n ≤ 90 := by omega
  unfold LN at N
  unfold lawE lawSc scS act7 ioS
  k_steps
  rename_i h2 tk2 mk mv c2 F2 N2 hne hMk
  have hne4 : @Ne Nat (L + 4) mk := hne (L + 4, o4) (by k_mem)
  dsimp only
  clear F N
  k_steps
  with_reducible rename Fr _ _ _ _ => kF
  with_reducible rename News _ _ _ _ => kN
  rename_i h3 o4' hd4
  have hI1 : @LT.lt Nat _ I h3.objs.size := Heap.lt_size (kN (I, oI) (by k_mem)).1
  have ht1 : @LT.lt Nat _ tr h3.objs.size := Heap.lt_size (kN (tr, _) (by k_mem)).1
  refine comp_store (s := { s with heap := h3, toks := tk, gens := gs }) (items := List.toArray its) (I := h3.objs.size) (D := h3.objs.size + 1) (C := h3.objs.size + 2) rfl rfl rfl ?q3 ?q4 ?q5 ?q6 ?q1 ?q7 ?q2 kF kN (JFix _ gs fun i acc => TupN acc ((told.take i).filter (fun x => !mark U here x.1)) tn) ⟨rfl, rfl, rfl, fun j p q e => by simp at e⟩ ?hl ?turn ?done ?sz
  case q1 => decide
  case q2 => decide
  case q3 => exact rfl
  case q4 => exact rfl
  case q5 => with_unfolding_all rfl
  case q6 => exact rfl
  case q7 => exact rfl
  case hl => rintro i acc news' g ⟨rfl, rfl, _⟩; exact ⟨cO, by k_mem⟩
  case sz => rw [sizeLine_eq, List.size_toArray]; omega
  case done =>
    rintro acc c h' tk g news' ⟨rfl, rfl, hacc⟩ F' N' ne lt
    have hsz : (List.toArray its).size = told.length := by rw [List.size_toArray, lf.tup.1]
    rw [hsz, List.take_length] at hacc
    exact fin h' tk (h3.objs.size + 1) acc c o4' _ (set_told F' rfl)
      (LN.to (fun q hq => N' q (.tail _ (.tail _ hq))) (N' _ (.head _))) hd4 hacc ⟨Nat.lt_succ_of_lt ht1, Nat.ne_of_gt (Nat.lt_succ_of_lt hI1)⟩
  case turn =>
    rintro i v acc news₁ h₁ tk₁ g₁ oI' oD oL mC E' hv ⟨rfl, rfl, hacc⟩ T2
    obtain ⟨p, q, a, t1, t2, hx, rfl, hm⟩ := lf.tup.at hv
    have hpn : p < n := (lf.bd _ (List.mem_of_getElem? hx)).1
    have FC := T2.F
    have NC := T2.N
    have hxC := T2.hx
    clear fin hb
    refine tests_one ?_
    show wpAny _ _ _ _ _ _
    k_fold
    k_steps
    have hft := filter_takeP (P := fun x : Nat × Nat => !mark U here x.1) hx
    refine goOn ?_
    refine' sub0N (p := p) (q := q) (t1 := t1) (t2 := t2) NC ?y1 ?_ ?y2
    case y1 => (repeat (first | assumption | refine' List.Mem.tail _ ?_))
    case y2 => with_unfolding_all rfl
    k_steps
    refine goOn ?_
    refine' subMN (p := p) NC ?y3 hMk hpn ?y4 ?_ ?y5
    case y3 => k_mem
    case y4 => omega
    case y5 => with_unfolding_all rfl
    cases hmk : mark U here p with
    | true =>
      rw [show (p, q).1 = p from rfl, hmk] at hft
      k_steps
      with_reducible rename Fr _ (h3.objs.size + 2) _ _ => kF5
      with_reducible rename News _ (h3.objs.size + 2) _ _ => kN5
      refine T2.post kF5 (fun q hq => (kN5 q hq).1) ⟨rfl, rfl, ?_⟩
      show TupN _ _ _
      rw [hft]
      simpa using hacc
    | false =>
      rw [show (p, q).1 = p from rfl, hmk] at hft
      k_steps
      with_reducible rename Fr _ (h3.objs.size + 2) _ _ => kF5
      with_reducible rename News _ (h3.objs.size + 2) _ _ => kN5
      refine T2.post kF5 (fun q hq => (kN5 q hq).1) ⟨rfl, rfl, ?_⟩
      show TupN _ _ _
      rw [hft, show (if (!false) = true then [(p, q)] else []) = [(p, q)] from rfl]
      exact hacc.snoc rfl hm
end
end Mine
namespace Mine
theorem resetLx : True := by
  k_with_none
  w_top off
  trivial
section
variable {w : World} {s : Shared} {mg mb : Str → Option Value} {mean : ExcName → Option Value} {d u : Nat} {gd : Option (List Code)} {E : Value → Shared → Prop} {Q : Flow → Shared → Prop} {L fa : Addr} {cd : Value} {h₀ : Heap}
variable {h : Heap} {tk : Nat} {gs : Array GenState} {told : List (Nat × Nat)} {its : List Value} {cO : Nat} {to : Addr} {vs : List Value} {cH : Nat} {ha : Addr} {here n : Nat} {T : Nat → Str} {U D : Nat → Nat} {tv uv dv : List Value} {o : Obj} {kvs : List (Str × Value)} {cT cU cD : Nat} {o1 o2 o3 o4 oI : Obj} {ps : Array Value} {tn : List (Addr × Obj)} {a3 a4 a5 a6 : Option Value}
variable {sc tr tx up dp pl Dl I : Addr} {ws : List Value} {k : Nat} {num : Int} {tr5 : Tok}
theorem any_up (h : TreeOk n T U D) (hU : Plain.Up n U) {p : Nat} (hp : p < n) (hh : here < n) : ((Plain.up U p).map T).any (fun z => z == T ((here : Nat) : Int).toNat) = mark U here p := by
  rw [mark_up hU p hp, Int.toNat_natCast]
  by_cases z : here ∈ Plain.up U p
  · rw [decide_eq_true z, List.any_eq_true]
    exact ⟨T here, List.mem_map_of_mem z, by simp⟩
  · rw [decide_eq_false z, List.any_eq_false]
    intro y hy
    obtain ⟨q, hq, rfl⟩ := List.mem_map.mp hy
    intro e
    have e := eq_of_beq e
    have hqn := (Plain.up_lt hU p hp q hq).1
    exact z (h.inj _ _ hqn hh e ▸ hq)
theorem LF.keep {P : Nat × Nat → Bool} {its' vs' : List Value} (lf : LF w k n here T U D tv uv dv o kvs told its vs tn ps) (h1 : TupN its' (told.filter P) tn) (h2 : StrsAre vs' ((told.filter P).map (nm T))) : LF w (k + 1) n here T U D tv uv dv o kvs (told.filter P) its' vs' tn ps :=
  { lf with
    nk := by have := lf.nk; omega
    tup := h1
    bd := fun x hx => lf.bd x (List.mem_filter.mp hx).1
    tl := by
      have h3 := cnt_filter (n := n) (told := told) (P := P)
      have h4 := lf.tl
      unfold cnt at h3
      omega
    hv := h2 }
theorem nm_len (h : TreeOk n T U D) {x : Nat × Nat} (hx : x.1 < n) (hq : x.2 ≤ 3) : (nm T x).length ≤ 1000 := by
  have h1 := h.short x.1 hx
  unfold nm
  have h3 := mul_len (n := (x.2 : Int)) (by omega)
  rw [Str.length_append]; omega
local macro_rules | `(tactic| walk_at "subscriptTail") => rul (qsub `PySem.Value.int) `subLN "AMDDr_S!" 0 'n'
local macro_rules | `(tactic| walk_at "subscriptTail") => rul (qsub `PySem.Value.int) `subS "AMAOOO_S!" 1 'n'
local macro_rules | `(tactic| walk_at "eval ListComp") => do rul (some (← `(eval (PySem.Expr.ListComp _ [_] _ _) _))) `comp_eval "RRD_" 0 'n'
local macro_rules | `(tactic| walk_at "call ref") => rul (qcall `PySem.Value.ref (qn 147) "s") `anc_use2 "AAAAAAOAA_!" 5 'F'
local macro_rules | `(tactic| walk_at "call type:list") => rul (qcall `PySem.Value.type (qs "list") "r") `list_anc "AOOA_!" 12 'n'
local macro_rules | `(tactic| walk_at "call ref") => rul (qcall `PySem.Value.ref (qn 155) "rr") `diff_use "AAAAAOMMAA_!" 4 'F'
local macro_rules | `(tactic| walk_at "call type:list") => rul (qcall `PySem.Value.type (qs "list") "r") `list_diff "AAAAAsROOA_!" 9 'n'
theorem law_7b {its0 : List Value} (X : (hd.heap_1 w.params).In h₀) (TT : Top topProg lg mean mg mb h₀) (hroom : d ≤ 360) (hu : u ≤ 1500)
    (O : LO L tx up dp pl tr Dl I) (qI : h₀.get? I = none) (hk : k ≤ 43) (hb : AllBare gs) (F : Fr h₀ L h (mmL sc (some (.ref to)) (some (.ref ha)) a3 a4 a5 a6))
    (N : News h₀ L h ((I, oI) :: LN L tr tx up dp pl Dl ha to ws vs its tv uv dv cH cO cT cU cD o o1 o2 o3 o4 ps tn)) (C : LC tr here o1 o2 o3 o4) (lf : LF w k n here T U D tv uv dv o kvs told its0 vs tn ps) (la : LA L tx up dp pl tr I tn) (zz : @LT.lt Nat _ tr to ∧ @LT.lt Nat _ tr ha ∧ @Ne Nat to I ∧ @Ne Nat ha I)
    (hit : TupN its (told.filter (fun x => !mark U here x.1)) tn) :
    wpAny (model prg w) ⟨none, d, some [lawE w L fa cd], gd, u⟩ (execs (a7b w) (lawE w L fa cd)) (AX w s h₀ L sc tr tx up dp pl Dl I ws (k + 1) a4 oI) E { s with heap := h, toks := tk, gens := gs } := by
  obtain ⟨p1, p2, p3, p4, p5, p6, p7, p8⟩ := id O
  obtain ⟨z1, z2, z3, z4⟩ := id zz
  obtain ⟨d1, ⟨th, d2⟩, ⟨c3, d3⟩, c4, d4⟩ := C
  have hA2 : ∀ q ∈ tn, @Ne Nat q.1 (L + 2) := fun q hq => (la q hq).1.2.2.1
  have hA3 : ∀ q ∈ tn, @Ne Nat q.1 (L + 3) := fun q hq => (la q hq).1.2.2.2.1
  have hA4 : ∀ q ∈ tn, @Ne Nat q.1 (L + 4) := fun q hq => (la q hq).1.2.2.2.2
  have hk4 : k ≤ 44 := by omega
  obtain ⟨b1, b2, b3, b4⟩ := lf.len hk4
  have hUp := lf.uu
  have G₀ : Gd w mg mb h₀ := ⟨X, topRead_of TT⟩
  have kk := Kp.refl h₀
  have sz0 : h₀.objs.size ≤ h₀.objs.size := Nat.le_refl _
  have hLs : h₀.objs.size ≤ L := F.above
  have hwz : (told.map (nm T)).length ≤ 1000 := by rw [List.length_map]; omega
  have hhv := lf.hv
  have hTS := lf.tS
  have hhn := lf.hn
  have hTr := lf.tr
  unfold LN at N
  unfold lawE lawSc scS a7b tlS
  k_steps
  refine comp_inv (s := { s with heap := h, toks := tk, gens := gs }) (items := List.toArray vs) (I := h.objs.size) (D := h.objs.size + 1) (C := h.objs.size + 2) rfl rfl rfl ?q3 ?q1 ?q7 ?q2 F N (fun i acc news g => news = _ ∧ AllBare g ∧ StrsAre acc (((told.take i).filter (fun x => mark U here x.1)).map (nm T))) ⟨rfl, hb, .nil⟩ ?hl ?turn ?done ?sz
  case q1 => decide
  case q2 => decide
  case q3 => exact rfl
  case q7 => exact rfl
  case hl => rintro i acc news' g ⟨rfl, _⟩; exact ⟨cH, by k_mem⟩
  case sz => rw [sizeLine_eq, List.size_toArray]; omega
  case turn =>
    rintro i v acc news₁ h₁ tk₁ g₁ oI' oD oL mC E' hv ⟨rfl, hb2, hacc⟩ T2
    obtain ⟨y, t, hy, rfl⟩ := strs_at hhv hv
    obtain ⟨x, hx, rfl⟩ : ∃ x, told[i]? = some x ∧ nm T x = y := by
      rw [List.getElem?_map] at hy
      cases z : told[i]? with
      | none => rw [z] at hy; cases hy
      | some p => rw [z] at hy; exact ⟨p, rfl, Option.some.inj hy⟩
    have hxb := lf.bd x (List.mem_of_getElem? hx)
    have hanc := ancNm hTr hxb.1
    have hlen := nm_len hTr hxb.1 hxb.2
    have hul : ((Plain.up U x.1).map T).length ≤ 1000 := by
      rw [List.length_map]
      have := Plain.up_len (U := U) x.1
      omega
    have FC := T2.F
    have NC := T2.N
    have hxC := T2.hx
    clear F N hb
    refine tests_one ?_
    show wpAny _ _ _ _ _ _
    k_fold
    k_steps
    all_goals
      with_reducible rename Fr _ (h.objs.size + 2) _ _ => kF5
      with_reducible rename News _ (h.objs.size + 2) _ _ => kN5
      with_reducible rename AllBare _ => hb5
      have hft := filter_takeP (P := fun x : Nat × Nat => mark U here x.1) hx
      rename_i hany
      rw [any_up hTr hUp hxb.1 hhn] at hany
      refine T2.post kF5 (fun q hq => (kN5 q (.tail _ hq)).1) ⟨rfl, hb5, ?_⟩
      rw [hft, hany, List.map_append]
    · exact hacc.append' (.cons _ _ .nil)
    · simpa using hacc
  case done =>
    rintro acc c h' tk g news' ⟨rfl, hb2, hacc⟩ F' N' ne lt
    have hsz : (List.toArray vs).size = told.length := by rw [List.size_toArray, hhv.length, List.length_map]
    rw [hsz, List.take_length] at hacc
    have hfl : acc.length ≤ 4000 := by
      rw [hacc.length, List.length_map]
      have := List.length_filter_le (fun x : Nat × Nat => mark U here x.1) told
      omega
    have hBl : Below ⟨none, d, some [lawE w L fa cd], gd, u⟩ h₀ [lawE w L fa cd] h' := ⟨rfl, F'.keep, .cons (by show ScopeKind.function ≠ _; decide) rfl F'.ns (get_above hLs) trivial⟩
    unfold lawE lawSc scS at hBl
    clear F N
    show wpAny _ _ _ _ _ _
    k_steps
    rename_i h6 tk6 x6 DG6 h7 tk7 B' vs' c' hvs' lt' hh kF kN
    rw [sel_names hTr (fun x hx => (lf.bd x hx).1)] at hvs'
    have l1 : @LT.lt Nat _ tr B' := lt' (tr, _) (by k_mem)
    have l2 : @LT.lt Nat _ I B' := lt' (I, oI) (by k_mem)
    exact AX.of (ha := B') (to := to) (vs := vs') (cH := c') hb2 (set_have kF rfl)
      (LN.ha (fun q hq => kN q (.tail _ (.tail _ hq))) (kN _ (.head _))) ⟨d1, ⟨_, d2⟩, ⟨_, d3⟩, _, d4⟩ (lf.keep hit hvs') la ⟨z1, l1, z3, Nat.ne_of_gt l2⟩
end
end Mine
namespace Mine
section
variable {w : World} {s : Shared} {mg mb : Str → Option Value} {mean : ExcName → Option Value} {d u : Nat} {gd : Option (List Code)} {E : Value → Shared → Prop} {Q : Flow → Shared → Prop} {L fa : Addr} {cd : Value} {h₀ : Heap}
variable {h : Heap} {tk : Nat} {gs : Array GenState} {told : List (Nat × Nat)} {its : List Value} {cO : Nat} {to : Addr} {vs : List Value} {cH : Nat} {ha : Addr} {here n : Nat} {T : Nat → Str} {U D : Nat → Nat} {tv uv dv : List Value} {o : Obj} {kvs : List (Str × Value)} {cT cU cD : Nat} {o1 o2 o3 o4 oI : Obj} {ps : Array Value} {tn : List (Addr × Obj)} {a3 a4 a5 a6 : Option Value}
variable {sc tr tx up dp pl Dl I : Addr} {ws : List Value} {k : Nat} {num : Int} {tr5 : Tok}
theorem abv_take {i : Nat} {x : Nat × Nat} (e : told[i]? = some x) : abv U (told.take (i + 1)) = abv U (told.take i) ++ Plain.up U (U x.1) := by
  unfold abv
  rw [List.take_add_one, e, List.flatMap_append]
  simp
theorem up_tail (hU : Plain.Up n U) (h0 : U 0 = 0) {p : Nat} (hp : p < n) : (Plain.up U p).tail = Plain.up U (U p) := by
  rcases Nat.eq_zero_or_pos p with z | z
  · rw [z, h0, Plain.up_zero]; rfl
  · rw [Plain.up_eq hU z hp]; rfl
theorem nm_lenY (h : TreeOk n T U D) {x : Nat × Nat} (hx : x.1 < n) (hq : x.2 ≤ 3) : (nm T x).length ≤ 1000 := by
  have h1 := h.short x.1 hx
  unfold nm
  have h3 := mul_len (n := (x.2 : Int)) (by omega)
  rw [Str.length_append]; omega
/-- what a name's ways up tell in a comprehension over the names -/
theorem par_comp {elt i0 i1 : Expr} {x0 x1 : Str} {px0 px1 : Pos} {scope : Scope} {cl : List (Str × Addr)} {pos : Pos} {env envL : Env} {Q : Value → Shared → Prop} {news : List (Addr × Obj)} {mm : Str → Option Value} {I D C : Addr} {Dp : Nat → Nat}
    (hII : I = h.objs.size) (hDD : D = h.objs.size + 1) (hCC : C = h.objs.size + 2)
    (hcell : ∀ y ∈ scope.names, y.2 ≠ .cell) (hkind : scope.kind = .function) (hx0 : scope.names.lookup x0 = some .local) (hx1 : scope.names.lookup x1 = some .local)
    (X : (hd.heap_1 w.params).In h₀) (TT : Top topProg lg mean mg mb h₀) (hroom : d ≤ 360) (hu : u ≤ 1500) (hkL : envL.scope.kind ≠ .module) (hfL : envL.frame = some L)
    (F : Fr h₀ L h mm) (N : News h₀ L h news) (hm : (ha, listOf (List.toArray vs) cH) ∈ news) (hv : StrsAre vs (told.map (nm T))) (hTr : TreeOk n T U Dp) (hUp : Plain.Up n U) (bd : ∀ x ∈ told, x.1 < n ∧ x.2 ≤ 3) (hn : n ≤ 90) (hz : told.length ≤ 100) (hb : AllBare gs)
    (hBl : ∀ h3 : Heap, Kp h₀ h3 → h3.Ns L mm → Below ⟨none, d, some [envL], gd, u⟩ h₀ [envL] h3)
    (ev1 : ∀ h3 tk3 g3 mC p t ys E' Qx oL news', Fr h₀ C h3 mC → mC x0 = some (.str p t) → News h₀ C h3 ((L, oL) :: news') → Below ⟨none, d, some [envL], gd, u⟩ h₀ [envL] h3 → AllBare g3 → p.length ≤ 1000 → Anc (Txt.rstripChars p slash) ys →
      (∀ h' tk' g' x, ParGS w h₀ L C oL mC news' x ys { s with heap := h', toks := tk', gens := g' } → Qx (.ref x) { s with heap := h', toks := tk', gens := g' }) →
      wpAny (model prg w) ⟨none, d, some [envL], gd, u⟩ (eval i1 (compEnvC scope cl C env)) Qx E' { s with heap := h3, toks := tk3, gens := g3 })
    (ev2 : ∀ h3 tk3 g3 mC y t E' Qx, Fr h₀ C h3 mC → mC x1 = some (.str y t) → y.length ≤ 120 → (∀ tk' t', Qx (.str (y ++ Str.ofString "/") t') { s with heap := h3, toks := tk', gens := g3 }) →
      wpAny (model prg w) ⟨none, d, some [envL], gd, u⟩ (eval elt (compEnvC scope cl C env)) Qx E' { s with heap := h3, toks := tk3, gens := g3 })
    (hQ : ∀ acc c h' tk g, StrsAre acc ((abv U told).map fun q => nm T (q, 1)) → AllBare g → Fr h₀ L h' mm → News h₀ L h' ((D, listOf acc.toArray c) :: news) → (∀ q ∈ news, q.1 ≠ D) → @LT.lt Nat _ L D → Q (.ref D) { s with heap := h', toks := tk, gens := g })
    (hs : ∀ x, foldedSetIterable i1 (compEnvC scope cl C env) x = pure x := by intro _; rfl) :
    CompSt2 prg w ⟨none, d, some [envL], gd, u⟩ E env (twoC elt (.Name x0 px0) (.Name x1 px1) i0 i1 scope pos) scope cl Q (.ref ha) { s with heap := h, toks := tk, gens := gs } := by
  have hLI : @LT.lt Nat _ L I := by rw [hII]; exact F.ns.lt
  have hID : @LT.lt Nat _ I D := by rw [hII, hDD]; exact Nat.lt_succ_self _
  have hDC : @LT.lt Nat _ D C := by rw [hDD, hCC]; exact Nat.lt_succ_self _
  have hsz : @LE.le Nat _ h₀.objs.size I := Nat.le_trans F.above (Nat.le_of_lt hLI)
  have hLD : @LT.lt Nat _ L D := Nat.lt_trans hLI hID
  have hLC : @LT.lt Nat _ L C := Nat.lt_trans hLD hDC
  have hIC : @LT.lt Nat _ I C := Nat.lt_trans hID hDC
  have qI : h₀.get? I = none := get_above hsz
  have qD : h₀.get? D = none := get_above (Nat.le_trans hsz (Nat.le_of_lt hID))
  have qC : h₀.get? C = none := get_above (Nat.le_trans hsz (Nat.le_of_lt hIC))
  have ql : L ≠ I ∧ L ≠ D ∧ L ≠ C := ⟨Nat.ne_of_lt hLI, Nat.ne_of_lt hLD, Nat.ne_of_lt hLC⟩
  have hvl : vs.length = told.length := by rw [hv.length, List.length_map]
  have hU0 := hTr.root.2.1
  refine comp2I_at (s := { s with heap := h, toks := tk, gens := gs }) (items := List.toArray vs) hII hDD hCC rfl hcell hkind hx0 hx1 ⟨_, (N _ hm).1, rfl, _, rfl⟩
    (fun i acc s' => CJ { s with heap := h, toks := tk, gens := gs } h₀ L I D C mm (fun i acc news' g => news' = news ∧ AllBare g ∧ StrsAre acc ((abv U (told.take i)).map fun q => nm T (q, 1))) i acc s') ?fr ?jl ?j0 ?turn ?done ?sz hs
  case fr => exact fun i acc s' h' tk x k => x.frame ql qI qD qC k
  case jl =>
    rintro i acc s' ⟨h1, tk1, g1, news1, rfl, F1, N1, ⟨rfl, _⟩, ne1⟩
    exact ⟨_, (N1 _ hm).1, rfl, _, rfl⟩
  case j0 =>
    exact ⟨_, _, _, news, rfl, F, N, ⟨rfl, hb, .nil⟩, fun q hq => by
      have : @LT.lt Nat _ q.1 I := by rw [hII]; exact Heap.lt_size (N q hq).1
      exact ⟨Nat.ne_of_lt this, Nat.ne_of_lt (Nat.lt_trans this hID), Nat.ne_of_lt (Nat.lt_trans this hIC)⟩⟩
  case sz => rw [List.size_toArray]; omega
  case done =>
    rintro acc c s' ⟨h1, tk1, g1, news1, rfl, F1, N1, ⟨rfl, hb1, hacc⟩, ne1⟩ hD ⟨mC, hmC⟩
    refine ⟨mC, hmC, fun h2 hs2 => ?_⟩
    have hCL : C ≠ L := Nat.ne_of_gt hLC
    rw [show (List.toArray vs).size = told.length from by rw [List.size_toArray, hvl], List.take_length] at hacc
    refine hQ acc.toList c h2 tk1 g1 hacc hb1 (ksk_fr F1 hs2 hCL qC) ?_ (fun q hq => (ne1 q hq).2.1) hLD
    refine ksk_news (List.forall_mem_cons.mpr ⟨⟨?_, ql.2.1.symm, qD⟩, N1⟩) hs2 (List.forall_mem_cons.mpr ⟨Nat.ne_of_lt hDC, fun q hq => (ne1 q hq).2.2⟩)
    rw [Array.toArray_toList]; exact hD
  case turn =>
    intro i v acc s₃ oI oD oC E' hvi hJ hI hD hC hns
    obtain ⟨h3, tk3, g3, news3, oL, mC, rfl, ⟨rfl, hb3, hacc⟩, T2⟩ := hJ.turn ⟨hLI, hID, hDC⟩ hsz hI hD hC hns
    obtain ⟨y, t, hy, rfl⟩ := strs_at hv hvi
    obtain ⟨x, hx, rfl⟩ : ∃ x, told[i]? = some x ∧ nm T x = y := by
      rw [List.getElem?_map] at hy
      cases z : told[i]? with
      | none => rw [z] at hy; cases hy
      | some p => rw [z] at hy; exact ⟨p, rfl, Option.some.inj hy⟩
    have hxb := bd x (List.mem_of_getElem? hx)
    have hupl : ((Plain.up U x.1).map T).length ≤ 100 := by
      rw [List.length_map]
      have := Plain.up_len (U := U) x.1
      omega
    have N0 := T2.N
    obtain ⟨n1, N0⟩ := List.forall_mem_cons.mp N0
    obtain ⟨n2, N0⟩ := List.forall_mem_cons.mp N0
    obtain ⟨n3, N0⟩ := List.forall_mem_cons.mp N0
    refine ev1 h3 tk3 g3 mC (nm T x) t ((Plain.up U x.1).map T) E' _ oL ((I, oI) :: (D, oD) :: news3) T2.F T2.hx (List.forall_mem_cons.mpr ⟨n3, List.forall_mem_cons.mpr ⟨n1, List.forall_mem_cons.mpr ⟨n2, N0⟩⟩⟩) (hBl _ T2.F.keep (T2.hL _ n3.1)) hb3 (nm_lenY hTr hxb.1 hxb.2) (ancNm hTr hxb.1) ?_
    intro h4 tk4 g4 xx G
    obtain ⟨F4, N4, hb4, dd, a, Cg, g, o, hA, hxx, hIs, hdd, ⟨l1, l2, l3⟩, ⟨q0, q1, q2, q3⟩, ne, nC⟩ := G
    obtain ⟨og, _, _, hog, _⟩ := id hA.gen
    have nL := ne _ (.head _)
    have nI := ne _ (.tail _ (.head _))
    have nD := ne _ (.tail _ (.tail _ (.head _)))
    obtain ⟨m1, N4⟩ := List.forall_mem_cons.mp N4
    obtain ⟨m2, N4⟩ := List.forall_mem_cons.mp N4
    obtain ⟨m3, N4⟩ := List.forall_mem_cons.mp N4
    have W := par_it2 (w := w) (s₀ := { s with heap := h4, toks := tk4, gens := g4 }) (d := d) (u := u) (gd := gd) (S := D) (LL := C) (Lw := L) (g := g) (ys := (Plain.up U x.1).map T) (envL := envL) X TT F4.keep F.above qC q0 q1 q2 q3 hdd hog qD m1.1 T2.hL hkL hfL (by omega) (by omega) (by omega) (Nat.ne_of_gt l3) (Nat.ne_of_gt (Nat.lt_trans l1 l3)) (Nat.ne_of_gt (Nat.lt_trans l2 l3)) (Nat.ne_of_gt l1) (Nat.ne_of_gt l2) hA.aC nL.1.symm nL.2.2.2.symm nL.2.1.symm nL.2.2.1.symm nD.1 nD.2.2.2 nD.2.1.symm nD.2.2.1.symm ql.2.1 nC.1.symm nC.2.2.2.symm nC.2.1.symm nC.2.2.1.symm (Nat.ne_of_gt hDC) ql.2.2
    have old : ∀ {b : Addr} {ob : Obj}, (b ≠ xx ∧ b ≠ dd ∧ b ≠ a ∧ b ≠ Cg) → b ≠ D → b ≠ C → b ≠ L → ∀ {s' : Shared}, ParEn2 { s with heap := h4, toks := tk4, gens := g4 } D xx dd a Cg g C L mm s' → h4.get? b = some ob → s'.heap.get? b = some ob := by
      rintro b ob ⟨e1, e2, e3, e4⟩ e5 e6 e7 s' ⟨h5, tk5, g5, rfl, _, kp, _⟩ e
      exact kp _ _ e1 e2 e3 e4 e5 e6 e7 e
    refine ⟨xx, _, _, fun kk y => ∃ z t, ((Plain.up U x.1).map T)[kk + 1]? = some z ∧ y = .str (z ++ Str.ofString "/") t, _, _, rfl, W, by omega, ⟨⟨h4, tk4, g4, rfl, .inl rfl⟩, fun b o _ _ _ _ e => e, ⟨o, hxx, hIs⟩, hA, ⟨_, F4.ns⟩⟩, m3.1, ?_, ?_, ?_⟩
    · intro s' hE
      refine ⟨old nI (Nat.ne_of_lt hID) (Nat.ne_of_lt hIC) ql.1.symm hE m2.1, ?_⟩
      obtain ⟨h5, tk5, g5, rfl, _, _, hm5, _⟩ := hE
      exact hm5
    · rintro kk v s' oD' E'' hkk ⟨y, ty, hy5, rfl⟩ hSt hD5 ⟨m5, hm5, hv5⟩
      have hfr := fun h' tk' k m => W.frame (kk + 1) s' h' tk' hSt k m
      obtain ⟨⟨h5, tk5, g5, rfl, hgo⟩, kp, _, _, nsL⟩ := hSt
      have hk5 : Kp h₀ h5 := fun b o e => kp b o (fun z => by rw [z, q0] at e; cases e) (fun z => by rw [z, q3] at e; cases e) (fun z => by rw [z, qD] at e; cases e) (fun z => by rw [z, qC] at e; cases e) (F4.keep b o e)
      have hyl : y.length ≤ 120 := by
        rw [List.getElem?_map] at hy5
        obtain ⟨q, hq, rfl⟩ := Option.map_eq_some_iff.mp hy5
        exact Nat.le_trans (hTr.short q (Plain.up_lt hUp _ hxb.1 q (List.mem_of_getElem? hq)).1) (by omega)
      refine ev2 h5 tk5 g5 m5 y ty E'' _ ⟨hm5, hk5, Nat.le_trans hsz (Nat.le_of_lt hIC)⟩ hv5 hyl fun tk' t' => ?_
      exact ⟨⟨y, t', hy5, rfl⟩, hfr h5 tk' (fun b o _ _ e => e) nsL, hD5⟩
    · rintro outs s' ⟨h5, tk5, g5, rfl, hgo, kp, hm5, hnL⟩ hos hY
      have kp' : ∀ {b : Addr} {ob : Obj}, (b ≠ xx ∧ b ≠ dd ∧ b ≠ a ∧ b ≠ Cg) → b ≠ D → b ≠ C → b ≠ L → h4.get? b = some ob → h5.get? b = some ob := fun e e5 e6 e7 q => kp _ _ e.1 e.2.1 e.2.2.1 e.2.2.2 e5 e6 e7 q
      refine ⟨h5, tk5, g5, news3, rfl, ⟨hnL, fun b ob e => kp b ob (fun z => by rw [z, q0] at e; cases e) (fun z => by rw [z, q1] at e; cases e) (fun z => by rw [z, q2] at e; cases e) (fun z => by rw [z, q3] at e; cases e) (fun z => by rw [z, qD] at e; cases e) (fun z => by rw [z, qC] at e; cases e) (fun z => by rw [z, get_above F.above] at e; cases e) (F4.keep _ _ e), F.above⟩, fun q hq => ?_, ⟨rfl, AllBare.only hb4 hgo, ?_⟩, fun q hq => ⟨(T2.ne q hq).1, (T2.ne q hq).2.1, (N4 q hq).2.1⟩⟩
      · exact ⟨kp' (ne q (.tail _ (.tail _ (.tail _ hq)))) (T2.ne q hq).2.1 (N4 q hq).2.1 (T2.ne q hq).2.2 (N4 q hq).1, (T2.ne q hq).2.2, (N4 q hq).2.2⟩
      · rw [abv_take hx, List.map_append, Array.toList_append]
        refine hacc.append' ?_
        rw [← up_tail hUp hU0 hxb.1]
        refine kdy_strs (by rw [Array.length_toList, hos, List.length_map, List.length_map, List.length_tail]) fun j v hv => ?_
        rw [Array.getElem?_toList] at hv
        have hj : j < outs.size := (Array.getElem?_eq_some_iff.mp hv).1
        obtain ⟨y', e1, z, t', e2, rfl⟩ := hY j (by rw [← hos]; exact hj)
        rw [hv] at e1
        obtain rfl := Option.some.inj e1
        rw [List.getElem?_map] at e2
        obtain ⟨q, hq, rfl⟩ := Option.map_eq_some_iff.mp e2
        exact ⟨nm T (q, 1), by rw [List.getElem?_map, List.getElem?_tail, hq]; rfl, t', by rw [nm_one]⟩
end
end Mine
namespace Mine
section
variable {prog : Program} {w : World} {A : Around} {E : Value → Shared → Prop} {s : Shared}
/-- dict.fromkeys over an iterator of the program's own -/
theorem fk_loopI {I d : Addr} {n : Nat} {ys : List Str} {R : Result → Shared → Prop} {St : Nat → Shared → Prop} {En : Shared → Prop} (W : Itr prog w A.in1 d I n (fun i v => ∃ y t, ys[i]? = some y ∧ v = .str y t) St En) (hn : n = ys.length) (hb : n ≤ 100000) :
    ∀ (k i : Nat) (s : Shared) (kvs : List (Str × Value)), n - i = k → i ≤ n → St i s → s.heap.DictOf (strKind prog w) d kvs → kvs.length ≤ i →
    (∀ s', En s' → s'.heap.DictOf (strKind prog w) d ((ys.drop i).foldl (fun acc y => stored acc y .none) kvs) → R (.ok (.ret (.ref d))) s') →
    codeAny (model prog w) A (.builtin "dict.fromkeys.loop" ⟨[.ref d, .ref I, .none], []⟩) R s := by
  intro k
  induction k with
  | zero =>
    intro i s kvs hk hin hst hd hkl hR
    obtain rfl : i = n := by omega
    obtain ⟨o, es, ep, ho, r⟩ := id hd
    refine codeAny_builtin entry_fromkeys_loop ?_
    rw [Around.under_plainId plain_fromkeys_loop _]
    show wpAny _ A.in1 (pyNext (.ref I) >>= _) _ _ s
    refine wpAny_bind (W.done s o _ _ hst ho fun s' hE ho' => ?_)
    refine wpAny_pure (hR s' hE ?_)
    rw [List.drop_of_length_le (by omega)]
    exact ⟨o, es, ep, ho', r⟩
  | succ k ih =>
    intro i s kvs hk hin hst hd hkl hR
    have hlt : i < n := by omega
    obtain ⟨o, es, ep, ho, r⟩ := id hd
    refine codeAny_builtin entry_fromkeys_loop ?_
    rw [Around.under_plainId plain_fromkeys_loop _]
    show wpAny _ A.in1 (pyNext (.ref I) >>= _) _ _ s
    refine wpAny_bind (W.item i s o _ _ hlt hst ho fun v s1 hv hst1 ho1 => ?_)
    obtain ⟨y, t, hy, rfl⟩ := hv
    have hd1 : s1.heap.DictOf (strKind prog w) d kvs := ⟨o, es, ep, ho1, r⟩
    have hT : Shared.TypeIs s1 (.ref d) "dict" := hd1.typeIs
    show wpAny _ A.in1 (typeOf (.ref d) >>= _) _ _ _
    refine wpAny_bind (wpAny_typeOf hT ?_)
    refine KFB.if_so (by decide) ?_
    refine wpAny_bind (wpAny_of_eq (a := d) rfl ?_)
    have hls : (stored kvs y Value.none).length ≤ i + 1 := Nat.le_trans (stored_length_le _ _ _) (by omega)
    refine wpAny_bind (wpAny_holding (wpAny_dictSet_pairs (knd := strKind prog w) (k := y) (strKind_is _ _ _ _) hd1 (fun h2 hd2 hs2 => ?_) (by rw [sizeLine_eq]; omega)))
    refine wpAny_pure ⟨plainId_quiet plain_fromkeys_loop _, ih (i + 1) _ _ (by omega) hlt (W.frame (i + 1) s1 h2 _ hst1 fun b o hb e => hs2.extBut b o hb e) hd2 hls fun s' hE hd' => ?_⟩
    refine hR s' hE ?_
    have hi : i < ys.length := by omega
    rw [List.drop_eq_getElem_cons hi, List.foldl_cons]
    rw [List.getElem?_eq_getElem hi] at hy
    rw [Option.some.inj hy]
    exact hd'
theorem call_fromkeysI {I x : Addr} {n : Nat} {c : Addr} {ys : List Str} {Q : Value → Shared → Prop} {St : Nat → Shared → Prop} {En : Shared → Prop} (ho : s.heap.get? x = some (boundO "dict.fromkeys" (.type "dict"))) (hty : ∀ h' : Heap, (∀ b o, s.heap.get? b = some o → h'.get? b = some o) → ∀ M, Looks M h' (typeOf (.ref I)) (.ref c))
    (W : Itr prog w A.in1 s.heap.objs.size I n (fun i v => ∃ y t, ys[i]? = some y ∧ v = .str y t) St En) (hst : St 0 s) (hn : n = ys.length) (hb : n ≤ 100000)
    (h : ∀ s', En s' → s'.heap.DictOf (strKind prog w) s.heap.objs.size (fk ys) → Q (.ref s.heap.objs.size) s') :
    wpAny (model prog w) A (call (.ref x) [.ref I]) Q E s := by
  refine wpAny_call (codeAny_of_tree ?_)
  show wpAny _ A.in1 (callAny (.ref x) ⟨[.ref I], []⟩) _ _ s
  simp only [callAny]
  refine wpAny_bind (wpAny_load ho ?_)
  simp only [boundO, show (Value.type "builtin_function_or_method" == Value.type "method" || Value.type "builtin_function_or_method" == Value.type "builtin_function_or_method" || Value.type "builtin_function_or_method" == Value.type "method-wrapper") = true by decide, if_true]
  refine KFB.if_so (by decide) ?_
  refine wpAny_bind (wpAny_of_eq (a := ()) check_fromkeys ?_)
  refine wpAny_bind (wpAny_pure (wpAny_pure ?_))
  refine ⟨plainId_quiet plain_fromkeys _, codeAny_builtin entry_fromkeys ?_⟩
  rw [Around.under_plainId plain_fromkeys _]
  unfold Builtin.«dict.fromkeys»
  refine wpAny_bind (wpAny_of_eq (a := true) type_dict ?_)
  refine KFB.if_not rfl ?_
  refine wpAny_bind (wpAny_of_eq (a := true) PySem.F.kt_sub_dict ?_)
  refine KFB.if_not rfl ?_
  refine KFB.if_not rfl ?_
  show wpAny _ _ (rule _ >>= fun _ => pure (Value.ref I, Value.none) >>= _) _ _ s
  refine wpAny_bind (wpAny_rule (wpAny_bind (wpAny_pure ?_)))
  show wpAny _ _ (call (.type "dict") [] >>= _) _ _ s
  refine wpAny_bind (call_dict_0 ?_)
  refine wpAny_holding ?_
  have hpush : ∀ b o, s.heap.get? b = some o → (s.heap.push { cls := .type "dict", data := .dict #[] }).get? b = some o := fun b o e => Heap.get?_push_of_some _ e
  have hT : Shared.TypeIs { s with heap := s.heap.push { cls := .type "dict", data := .dict #[] } } (.ref s.heap.objs.size) "dict" := ⟨_, Heap.get?_push_size _ rfl, rfl⟩
  refine wpAny_bind ((hty _ hpush _).here ?_)
  refine wpAny_bind (wpAny_typeOf hT ?_)
  refine KFB.if_not rfl ?_
  refine wpAny_bind (wpAny_typeOf hT ?_)
  refine KFB.if_not rfl ?_
  have hst1 := W.frame 0 s (s.heap.push { cls := .type "dict", data := .dict #[] }) s.toks hst fun b o _ e => hpush b o e
  refine wpAny_bind (W.self _ _ _ hst1 fun s2 hst2 hk2 => ?_)
  have hd2 : s2.heap.DictOf (strKind prog w) s.heap.objs.size [] := by
    obtain ⟨oN, es, ep, e1, r⟩ := Heap.DictOf.new (knd := strKind prog w) s.heap
    exact ⟨oN, es, ep, hk2 _ e1, r⟩
  refine wpAny_pure ⟨plainId_quiet plain_fromkeys_loop _, fk_loopI (A := A) (ys := ys) (d := s.heap.objs.size) W hn hb n 0 _ [] (Nat.sub_zero _) (Nat.zero_le _) hst2 hd2 (Nat.le_refl _) fun s' hE hd => ?_⟩
  exact h s' hE hd
end
section
variable {w : World} {s : Shared} {mg mb : Str → Option Value} {mean : ExcName → Option Value} {d u : Nat} {gd : Option (List Code)} {envL : Env} {E : Value → Shared → Prop} {hB base : Heap} {L : Addr} {m : Str → Option Value} {news : List (Addr × Obj)}
theorem fromkeys_diff {Q : Value → Shared → Prop} {x wl : Addr} {wv : List Value} {ws fs : List Str} (X : (hd.heap_1 w.params).In hB) (T : Top topProg lg mean mg mb hB)
    (G : DifGS w hB L m news x wl wv fs s) (hws : StrsAre wv ws) (hLs : hB.objs.size ≤ L) (hkL : envL.scope.kind ≠ .module) (hfL : envL.frame = some L) (hd : d ≤ 390) (hu : u ≤ 2800) (hwz : ws.length ≤ 100000) {f : Addr} (ho : hB.get? f = some (boundO "dict.fromkeys" (.type "dict")))
    (h : ∀ h' tk B o, o.IsDictOf (strKind prg w) (fk (sel ws fs)) → Fr hB L h' m → News hB L h' ((B, o) :: news) → (∀ q ∈ news, @LT.lt Nat _ q.1 B) → Q (.ref B) { s with heap := h', toks := tk }) :
    wpAny (model prg w) ⟨none, d, some [envL], gd, u⟩ (call (.ref f) [.ref x]) Q E s := by
  obtain ⟨F, N, hw, dd, bo, so, it, oS, c, oI, hx, hdd, hbo, ⟨hso, hS, hc⟩, ⟨hit, hI⟩, ⟨l1, l2, l3, l4⟩, ⟨x0, d0, b0, s0, i0⟩, ne, nL, nw⟩ := G
  obtain ⟨oL, es, ep, hoL, r1, r2⟩ := id F.ns
  have hnsL : ∀ h : Heap, h.get? L = some oL → h.Ns L m := fun h e => ⟨oL, es, ep, e, r1, r2⟩
  have sL : @LT.lt Nat _ L s.heap.objs.size := Heap.lt_size hoL
  have sI : @LT.lt Nat _ it s.heap.objs.size := Heap.lt_size hit
  have hSn : s.heap.get? s.heap.objs.size = none := get_above (Nat.le_refl _)
  have W := ff_itr (s₀ := s) (wv := wv) (ws := ws) (d := d) (u := u + 1) (gd := gd) (S := s.heap.objs.size) (envL := envL) X T F.keep hLs x0 d0 b0 s0 i0 hx hdd hbo hso hoL hSn hS hc hw hws hkL hfL hnsL hd (by omega) l1 l2 l3 l4 (show @Ne Nat _ _ from by omega) nL nw
  have hsz : (sel ws fs).length ≤ 100000 := Nat.le_trans (List.length_filter_le _ _) hwz
  refine call_fromkeysI (A := ⟨none, d, some [envL], gd, u⟩) (F.keep _ _ ho) (fun h' k M => InstAt.type (C := 108) (ox := ffO dd bo it) (od := some (dictOf [] 0)) ⟨k _ _ hx, rfl, rfl, k _ _ hdd⟩) W ⟨⟨s.heap, s.toks, rfl⟩, fun b o _ _ e => e, ⟨0, oI, hit, hI, Nat.zero_le _, rfl⟩⟩ rfl hsz (fun s' he hD => ?_)
  obtain ⟨h', tk, rfl, hk, hNs⟩ := he
  obtain ⟨o, hoD, hdo⟩ := Heap.dictOf_iff.mp hD
  have old : ∀ b o, s.heap.get? b = some o → b ≠ s.heap.objs.size := fun b o e => Nat.ne_of_lt (Heap.lt_size e)
  refine h h' tk s.heap.objs.size o hdo ⟨hNs, fun b ob e => ?_, F.above⟩ ?_ (fun q hq => Heap.lt_size (N q hq).1)
  · have e2 := F.keep b ob e
    exact hk _ _ (fun z => by rw [z, x0] at e; cases e) (fun z => by rw [z, d0] at e; cases e) (fun z => by rw [z, b0] at e; cases e) (fun z => by rw [z, s0] at e; cases e) (fun z => by rw [z, i0] at e; cases e) (old _ _ e2) (fun z => by rw [z, get_above hLs] at e; cases e) e2
  · refine List.forall_mem_cons.mpr ⟨⟨hoD, Nat.ne_of_gt sL, get_above (Nat.le_trans F.above (Nat.le_of_lt sL))⟩, fun q hq => ?_⟩
    have nq := ne q hq
    have e2 := (N q hq).1
    exact ⟨hk _ _ nq.1 nq.2.1 nq.2.2.1 nq.2.2.2.1 nq.2.2.2.2 (old _ _ e2) (N q hq).2.1 e2, (N q hq).2⟩
end
end Mine
namespace Mine
theorem resetLo : True := by
  k_with_none
  w_top off
  trivial
section
variable {w : World} {s : Shared} {mg mb : Str → Option Value} {mean : ExcName → Option Value} {d u : Nat} {gd : Option (List Code)} {E : Value → Shared → Prop} {Q : Flow → Shared → Prop} {L fa : Addr} {cd : Value} {h₀ : Heap}
variable {h : Heap} {tk : Nat} {gs : Array GenState} {told : List (Nat × Nat)} {its : List Value} {cO : Nat} {to : Addr} {vs : List Value} {cH : Nat} {ha : Addr} {here n : Nat} {T : Nat → Str} {U D : Nat → Nat} {tv uv dv : List Value} {o : Obj} {kvs : List (Str × Value)} {cT cU cD : Nat} {o1 o2 o3 o4 oI : Obj} {ps : Array Value} {tn : List (Addr × Obj)} {a3 a4 a5 a6 : Option Value}
variable {sc tr tx up dp pl Dl I : Addr} {ws : List Value} {k : Nat} {num : Int} {tr5 : Tok}
noncomputable def a6b (w : World) : List Stmt := tlS (tlS (act6 w) rfl) rfl
theorem above_useN {mm : Str → Option Value} {fr : List Env} {E : Value → Shared → Prop} {Q : Value → Shared → Prop} {news : List (Addr × Obj)} (X : (hd.heap_1 w.params).In h₀) (TT : Top topProg lg mean mg mb h₀) (hroom : d ≤ 380) (hu : u ≤ 3000)
    (F : Fr h₀ L s.heap mm) (N : News h₀ L s.heap news) (hl : (up, listOf (List.toArray uv) cU) ∈ news) (hi : TblI uv n U) (hn : n ≤ 90) (h1 : 1 ≤ n) (hU : Plain.Up n U) (hU0 : U 0 = 0) (ht : (to, listOf (List.toArray its) cO) ∈ news) (tt : TupN its told tn) (htn : ∀ q ∈ tn, q ∈ news) (bd : ∀ x ∈ told, x.1 < n) (hk : told.length ≤ 500)
    (h : ∀ h' tk dd o kvs, Fr h₀ L h' mm → News h₀ L h' ((dd, o) :: news) → o.IsDictOf (PySem.intKind prg w) kvs → Kvs kvs (firsts U told) → (dd == sysModules) = false → (∀ q ∈ news, @Ne Nat q.1 dd) → Q (.ref dd) { s with heap := h', toks := tk }) :
    wpAny (model prg w) ⟨none, d, some fr, gd, u⟩ (call (.ref 176) [.ref to, .ref up]) Q E s := by
  refine wpAny_call (codeAny_mono (above_any (X.keeps F.keep) (TT.keeps F.keep) (N _ hl).1 hi hn h1 hU hU0 (N _ ht).1 (tt.tups N htn) bd hk hroom hu) fun r s' hr => ?_)
  obtain ⟨h', tk, dd, o, kvs, rfl, rfl, k, ⟨a1, a2⟩, a3, a4, a5⟩ := hr
  have out := out_of F a2
  refine h h' tk dd o kvs (F.keeps k) (List.forall_mem_cons.mpr ⟨⟨a1, out.2, out.1⟩, fun q hq => ⟨k _ _ (N q hq).1, (N q hq).2⟩⟩) a3 a4 a5 fun q hq z => ?_
  have := (N q hq).1
  rw [show q.1 = dd from z, a2] at this
  cases this
local macro_rules | `(tactic| walk_at "subscriptTail") => `(tactic| (k_here; k_dflt (refine stayHere ?_)))
local macro_rules | `(tactic| walk_at "subscriptTail") => rul (qsub `PySem.Value.int) `subLN "AMDDr_S!" 0 'n'
local macro_rules | `(tactic| walk_at "exec Assign cons ListComp") => rul none `assign_comp "SRRD_" 0 'n'
/-- what act 6 keeps -/
noncomputable def keep6 (U : Nat → Nat) (told : List (Nat × Nat)) (x : Nat × Nat) : Bool := !(decide (x.2 = 1) && decide (x.1 ∈ (firsts U told).map Prod.fst))
noncomputable def Fin6 (w : World) (s : Shared) (h₀ : Heap) (L fa : Addr) (cd : Value) (sc : Addr) (d u : Nat) (gd : Option (List Code)) (Q : Flow → Shared → Prop) (E : Value → Shared → Prop) (gs : Array GenState) (tr tx up dp pl Dl ha I : Addr) (oI : Obj) (ws vs tv uv dv : List Value) (cH cT cU cD : Nat) (o o1 o2 o4 : Obj) (ps : Array Value) (tn : List (Addr × Obj)) (told' : List (Nat × Nat)) (a3 a4 a5 a6 : Option Value) : Prop :=
  ∀ h tk to its cO o3 c3, Fr h₀ L h (mmL sc (some (.ref to)) (some (.ref ha)) a3 a4 a5 a6) → News h₀ L h ((I, oI) :: LN L tr tx up dp pl Dl ha to ws vs its tv uv dv cH cO cT cU cD o o1 o2 o3 o4 ps tn) → o3.data = .cell c3 → TupN its told' tn → (@LT.lt Nat _ tr to ∧ @Ne Nat to I) →
    wpAny (model prg w) ⟨none, d, some [lawE w L fa cd], gd, u⟩ (execs (a6b w) (lawE w L fa cd)) Q E { s with heap := h, toks := tk, gens := gs }
theorem law_6a (X : (hd.heap_1 w.params).In h₀) (TT : Top topProg lg mean mg mb h₀) (hroom : d ≤ 360) (hu : u ≤ 1500)
    (O : LO L tx up dp pl tr Dl I) (qI : h₀.get? I = none) (hk : k ≤ 43) (hb : AllBare gs) (F : Fr h₀ L h (mmL sc (some (.ref to)) (some (.ref ha)) a3 a4 a5 a6))
    (N : News h₀ L h ((I, oI) :: LN L tr tx up dp pl Dl ha to ws vs its tv uv dv cH cO cT cU cD o o1 o2 o3 o4 ps tn)) (C : LC tr here o1 o2 o3 o4) (lf : LF w k n here T U D tv uv dv o kvs told its vs tn ps) (la : LA L tx up dp pl tr I tn) (zz : @LT.lt Nat _ tr to ∧ @LT.lt Nat _ tr ha ∧ @Ne Nat to I ∧ @Ne Nat ha I)
    (fin : Fin6 w s h₀ L fa cd sc d u gd Q E gs tr tx up dp pl Dl ha I oI ws vs tv uv dv cH cT cU cD o o1 o2 o4 ps tn (told.filter (keep6 U told)) a3 a4 a5 a6) :
    wpAny (model prg w) ⟨none, d, some [lawE w L fa cd], gd, u⟩ (execs (act6 w) (lawE w L fa cd)) Q E { s with heap := h, toks := tk, gens := gs } := by
  obtain ⟨p1, p2, p3, p4, p5, p6, p7, p8⟩ := id O
  obtain ⟨z1, z2, z3, z4⟩ := id zz
  obtain ⟨d1, ⟨th, d2⟩, ⟨c3, d3⟩, c4, d4⟩ := C
  have hA2 : ∀ q ∈ tn, @Ne Nat q.1 (L + 2) := fun q hq => (la q hq).1.2.2.1
  have hA3 : ∀ q ∈ tn, @Ne Nat q.1 (L + 3) := fun q hq => (la q hq).1.2.2.2.1
  have hA4 : ∀ q ∈ tn, @Ne Nat q.1 (L + 4) := fun q hq => (la q hq).1.2.2.2.2
  have hk4 : k ≤ 44 := by omega
  obtain ⟨b1, b2, b3, b4⟩ := lf.len hk4
  obtain ⟨x1, x2, x3, x4, x5, x6, x7, x8, x9, x10⟩ := O.cell (c := L + 3) (Nat.lt_add_of_pos_right (by decide)) O.low.2.1 z1 z2
  have y4 : @Ne Nat (L + 4) (L + 3) := cellNe (by decide)
  have y2 : @Ne Nat (L + 2) (L + 3) := cellNe (by decide)
  have y1 : @Ne Nat (L + 1) (L + 3) := cellNe (by decide)
  have hTU := lf.tU
  have hUp := lf.uu
  have hU0 := lf.tr.root.2.1
  have h1n : 1 ≤ n := lf.tr.pos
  have hn9 : n ≤ 90 := by omega
  unfold LN at N
  unfold lawE lawSc scS act6 ibS
  k_steps
  refine' above_useN (its := its) (told := told) (tn := tn) (uv := uv) (cU := cU) (cO := cO) X TT ?w1 ?w2 F N ?w3 hTU hn9 h1n hUp hU0 ?w4 lf.tup ?w5 (fun x hx => (lf.bd x hx).1) ?w6 ?_
  case w1 => omega
  case w2 => omega
  case w3 => k_mem
  case w4 => k_mem
  case w5 => intro q hq; (repeat (first | assumption | refine' List.Mem.tail _ ?_))
  case w6 => omega
  intro h2 tk2 dd od fs F2 N2 hdd hfs lo hne
  have hne3 : @Ne Nat (L + 3) dd := hne (L + 3, o3) (by k_mem)
  dsimp only
  clear F N
  k_steps
  with_reducible rename Fr _ _ _ _ => kF
  with_reducible rename News _ _ _ _ => kN
  rename_i h3 o3' hd3
  have hI1 : @LT.lt Nat _ I h3.objs.size := Heap.lt_size (kN (I, oI) (by k_mem)).1
  have ht1 : @LT.lt Nat _ tr h3.objs.size := Heap.lt_size (kN (tr, _) (by k_mem)).1
  refine comp_store (s := { s with heap := h3, toks := tk, gens := gs }) (items := List.toArray its) (I := h3.objs.size) (D := h3.objs.size + 1) (C := h3.objs.size + 2) rfl rfl rfl ?q3 ?q4 ?q5 ?q6 ?q1 ?q7 ?q2 kF kN (JFix _ gs fun i acc => TupN acc ((told.take i).filter (keep6 U told)) tn) ⟨rfl, rfl, rfl, fun j p q e => by simp at e⟩ ?hl ?turn ?done ?sz
  case q1 => decide
  case q2 => decide
  case q3 => exact rfl
  case q4 => exact rfl
  case q5 => with_unfolding_all rfl
  case q6 => exact rfl
  case q7 => exact rfl
  case hl => rintro i acc news' g ⟨rfl, rfl, _⟩; exact ⟨cO, by k_mem⟩
  case sz => rw [sizeLine_eq, List.size_toArray]; omega
  case done =>
    rintro acc c h' tk g news' ⟨rfl, rfl, hacc⟩ F' N' ne lt
    have hsz : (List.toArray its).size = told.length := by rw [List.size_toArray, lf.tup.1]
    rw [hsz, List.take_length] at hacc
    exact fin h' tk (h3.objs.size + 1) acc c o3' _ (set_told F' rfl)
      (LN.to (fun q hq => N' q (.tail _ (.tail _ hq))) (N' _ (.head _))) hd3 hacc ⟨Nat.lt_succ_of_lt ht1, Nat.ne_of_gt (Nat.lt_succ_of_lt hI1)⟩
  case turn =>
    rintro i v acc news₁ h₁ tk₁ g₁ oI' oD oL mC E' hv ⟨rfl, rfl, hacc⟩ T2
    obtain ⟨p, q, a, t1, t2, hx, rfl, hm⟩ := lf.tup.at hv
    have hpn : p < n := (lf.bd _ (List.mem_of_getElem? hx)).1
    have FC := T2.F
    have NC := T2.N
    have hxC := T2.hx
    clear fin hb
    refine tests_one ?_
    show wpAny _ _ _ _ _ _
    k_fold
    k_steps
    have hft := filter_takeP (P := keep6 U told) hx
    refine goOn ?_
    refine' sub1N (p := p) (q := q) (t1 := t1) (t2 := t2) NC ?y1 ?_ ?y2
    case y1 => (repeat (first | assumption | refine' List.Mem.tail _ ?_))
    case y2 => with_unfolding_all rfl
    k_steps
    · rename_i hq1
      have hk6 : keep6 U told (p, q) = true := by
        have : ¬ q = 1 := by omega
        simp [keep6, this]
      rw [hk6] at hft
      refine T2.post FC (fun q hq => (NC q hq).1) ⟨rfl, rfl, ?_⟩
      show TupN _ _ _
      rw [hft, show (if true = true then [(p, q)] else []) = [(p, q)] from rfl]
      exact hacc.snoc rfl hm
    · rename_i hq1
      have hq : q = 1 := by omega
      refine goOn ?_
      refine' sub0N (p := p) (q := q) (t1 := t1) (t2 := t2) NC ?y3 ?_ ?y4
      case y3 => (repeat (first | assumption | refine' List.Mem.tail _ ?_))
      case y4 => with_unfolding_all rfl
      k_steps
      refine' notinI (kvs := fs) NC ?y5 hdd lo ?_ ?_
      case y5 => k_mem
      · intro hnone
        have hnf : p ∉ (firsts U told).map Prod.fst := by
          rcases hfs.at (p := p) with ⟨_, b⟩ | ⟨i', t', e1, e2⟩
          · exact b
          · rw [hnone] at e1; cases e1
        have hk6 : keep6 U told (p, q) = true := by
          unfold keep6
          simp only [decide_eq_false hnf, Bool.and_false, Bool.not_false]
        rw [hk6] at hft
        show wpAny _ _ _ _ _ _
        k_steps
        refine T2.post FC (fun q hq => (NC q hq).1) ⟨rfl, rfl, ?_⟩
        show TupN _ _ _
        rw [hft, show (if true = true then [(p, q)] else []) = [(p, q)] from rfl]
        exact hacc.snoc rfl hm
      · intro v hsome
        have hnf : p ∈ (firsts U told).map Prod.fst := by
          rcases hfs.at (p := p) with ⟨e1, b⟩ | ⟨i', t', e1, e2⟩
          · rw [hsome] at e1; cases e1
          · exact List.mem_map.mpr ⟨_, e2, rfl⟩
        have hk6 : keep6 U told (p, q) = false := by
          unfold keep6
          simp only [decide_eq_true hnf, decide_eq_true hq, Bool.and_true, Bool.not_true]
        rw [hk6] at hft
        show wpAny _ _ _ _ _ _
        k_steps
        refine T2.post FC (fun q hq => (NC q hq).1) ⟨rfl, rfl, ?_⟩
        show TupN _ _ _
        rw [hft]
        simpa using hacc
end
end Mine
namespace Mine
theorem resetLg : True := by
  k_with_none
  w_top off
  trivial
section
variable {w : World} {s : Shared} {mg mb : Str → Option Value} {mean : ExcName → Option Value} {d u : Nat} {gd : Option (List Code)} {E : Value → Shared → Prop} {Q : Flow → Shared → Prop} {L fa : Addr} {cd : Value} {h₀ : Heap}
variable {h : Heap} {tk : Nat} {gs : Array GenState} {told : List (Nat × Nat)} {its : List Value} {cO : Nat} {to : Addr} {vs : List Value} {cH : Nat} {ha : Addr} {here n : Nat} {T : Nat → Str} {U D : Nat → Nat} {tv uv dv : List Value} {o : Obj} {kvs : List (Str × Value)} {cT cU cD : Nat} {o1 o2 o3 o4 oI : Obj} {ps : Array Value} {tn : List (Addr × Obj)} {a3 a4 a5 a6 : Option Value}
variable {sc tr tx up dp pl Dl I : Addr} {ws : List Value} {k : Nat} {num : Int} {tr5 : Tok}
theorem abv_len (h : TreeOk n T U D) (hU : Plain.Up n U) (bd : ∀ x ∈ told, x.1 < n ∧ x.2 ≤ 3) (hz : told.length ≤ 89) (hn : n ≤ 45) : (abv U told).length ≤ 4000 := by
  have h6 := Plain.flatMap_len (f := fun x : Nat × Nat => Plain.up U (U x.1)) (k := 43) (l := told) fun x hx => by
    have h1 := (bd x hx).1
    have h2 := Plain.up_len (U := U) (U x.1)
    rcases Nat.eq_zero_or_pos x.1 with z | z
    · rw [z, h.root.2.1, Plain.up_zero]; exact Nat.zero_le _
    · have := hU x.1 z h1
      omega
  unfold abv
  omega
local macro_rules | `(tactic| walk_at "eval ListComp") => do rul (some (← `(eval (PySem.Expr.ListComp _ [_, _] _ _) _))) `comp2_eval "RRD_" 0 'n'
local macro_rules | `(tactic| walk_at "call ref") => rul (qcall `PySem.Value.ref (qn 119) "s") `par_use "AAAAAAOAA_!" 5 'F'
local macro_rules | `(tactic| walk_at "call ref") => rul (qcall `PySem.Value.ref (qn 155) "rr") `diff_use "AAAAAOMMAA_!" 4 'F'
local macro_rules | `(tactic| walk_at "call type:list") => rul (qcall `PySem.Value.type (qs "list") "r") `list_diff "AAAAAsROOA_!" 9 'n'
local macro_rules | `(tactic| walk_at "binaryOp Add str str") => rulx none `KXadd.add "XXD_" 3 'n' `(tactic| (first | with_reducible assumption | exact Nat.le_refl _))
theorem law_6b {its0 : List Value} (X : (hd.heap_1 w.params).In h₀) (TT : Top topProg lg mean mg mb h₀) (hroom : d ≤ 360) (hu : u ≤ 1500)
    (O : LO L tx up dp pl tr Dl I) (qI : h₀.get? I = none) (hk : k ≤ 43) (hb : AllBare gs) (F : Fr h₀ L h (mmL sc (some (.ref to)) (some (.ref ha)) a3 a4 a5 a6))
    (N : News h₀ L h ((I, oI) :: LN L tr tx up dp pl Dl ha to ws vs its tv uv dv cH cO cT cU cD o o1 o2 o3 o4 ps tn)) (C : LC tr here o1 o2 o3 o4) (lf : LF w k n here T U D tv uv dv o kvs told its0 vs tn ps) (la : LA L tx up dp pl tr I tn) (zz : @LT.lt Nat _ tr to ∧ @LT.lt Nat _ tr ha ∧ @Ne Nat to I ∧ @Ne Nat ha I)
    (hit : TupN its (told.filter (keep6 U told)) tn) :
    wpAny (model prg w) ⟨none, d, some [lawE w L fa cd], gd, u⟩ (execs (a6b w) (lawE w L fa cd)) (AX w s h₀ L sc tr tx up dp pl Dl I ws (k + 1) a4 oI) E { s with heap := h, toks := tk, gens := gs } := by
  obtain ⟨p1, p2, p3, p4, p5, p6, p7, p8⟩ := id O
  obtain ⟨z1, z2, z3, z4⟩ := id zz
  obtain ⟨d1, ⟨th, d2⟩, ⟨c3, d3⟩, c4, d4⟩ := C
  have hA2 : ∀ q ∈ tn, @Ne Nat q.1 (L + 2) := fun q hq => (la q hq).1.2.2.1
  have hA3 : ∀ q ∈ tn, @Ne Nat q.1 (L + 3) := fun q hq => (la q hq).1.2.2.2.1
  have hA4 : ∀ q ∈ tn, @Ne Nat q.1 (L + 4) := fun q hq => (la q hq).1.2.2.2.2
  have hk4 : k ≤ 44 := by omega
  obtain ⟨b1, b2, b3, b4⟩ := lf.len hk4
  have hUp := lf.uu
  have hLs : h₀.objs.size ≤ L := F.above
  have hwz : (told.map (nm T)).length ≤ 1000 := by rw [List.length_map]; omega
  have hhv := lf.hv
  have hTr := lf.tr
  have habl := abv_len hTr hUp lf.bd b1 b4
  unfold LN at N
  unfold lawE lawSc scS a6b tlS
  k_steps
  refine par_comp (I := h.objs.size) (D := h.objs.size + 1) (C := h.objs.size + 2) (told := told) (T := T) (U := U) (cH := cH) (vs := vs) (ha := ha) (n := n) rfl rfl rfl ?q1 ?q2 ?q3 ?q4 X TT hroom hu ?q5 ?q6 F N ?q7 hhv hTr hUp lf.bd ?q8 ?q9 hb ?hBl ?ev1 ?ev2 ?hQ
  case q1 => decide
  case q2 => exact rfl
  case q3 => decide
  case q4 => decide
  case q5 => show ScopeKind.function ≠ _; decide
  case q6 => exact rfl
  case q7 => k_mem
  case q8 => omega
  case q9 => omega
  case hBl => exact fun h3 k3 n3 => ⟨rfl, k3, .cons (by show ScopeKind.function ≠ _; decide) rfl n3 (get_above hLs) trivial⟩
  case ev1 =>
    intro h3 tk3 g3 mC p t ys E' Qx oL news' FC hxC NC hBl hb3 hpl hanc hq
    clear F N hb
    show wpAny _ _ _ _ _ _
    k_steps
    rename_i G5 _ _
    exact hq _ _ _ _ G5
  case ev2 =>
    intro h3 tk3 g3 mC y t E' Qx FC hxC hyl hq
    clear F N hb
    show wpAny _ _ _ _ _ _
    k_steps
    exact hq _ _
  case hQ =>
    intro acc c h' tk g hacc hb2 F' N' ne lt
    have hfl : acc.length ≤ 4000 := by
      rw [hacc.length, List.length_map]
      exact habl
    have hBl : Below ⟨none, d, some [lawE w L fa cd], gd, u⟩ h₀ [lawE w L fa cd] h' := ⟨rfl, F'.keep, .cons (by show ScopeKind.function ≠ _; decide) rfl F'.ns (get_above hLs) trivial⟩
    unfold lawE lawSc scS at hBl
    clear F N
    show wpAny _ _ _ _ _ _
    k_steps
    rename_i h6 tk6 x6 DG6 h7 tk7 B' vs' c' hvs' lt' hh kF kN
    rw [sel_parents hTr hUp (fun x hx => (lf.bd x hx).1)] at hvs'
    have l1 : @LT.lt Nat _ tr B' := lt' (tr, _) (by k_mem)
    have l2 : @LT.lt Nat _ I B' := lt' (I, oI) (by k_mem)
    exact AX.of (ha := B') (to := to) (vs := vs') (cH := c') hb2 (set_have kF rfl)
      (LN.ha (fun q hq => kN q (.tail _ (.tail _ hq))) (kN _ (.head _))) ⟨d1, ⟨_, d2⟩, ⟨_, d3⟩, _, d4⟩ (lf.keep (P := keep6 U told) hit hvs') la ⟨z1, l1, z3, Nat.ne_of_gt l2⟩
theorem law_6 (X : (hd.heap_1 w.params).In h₀) (TT : Top topProg lg mean mg mb h₀) (hroom : d ≤ 360) (hu : u ≤ 1500)
    (O : LO L tx up dp pl tr Dl I) (qI : h₀.get? I = none) (hk : k ≤ 43) (hb : AllBare gs) (F : Fr h₀ L h (mmL sc (some (.ref to)) (some (.ref ha)) a3 a4 a5 a6))
    (N : News h₀ L h ((I, oI) :: LN L tr tx up dp pl Dl ha to ws vs its tv uv dv cH cO cT cU cD o o1 o2 o3 o4 ps tn)) (C : LC tr here o1 o2 o3 o4) (lf : LF w k n here T U D tv uv dv o kvs told its vs tn ps) (la : LA L tx up dp pl tr I tn) (zz : @LT.lt Nat _ tr to ∧ @LT.lt Nat _ tr ha ∧ @Ne Nat to I ∧ @Ne Nat ha I) :
    wpAny (model prg w) ⟨none, d, some [lawE w L fa cd], gd, u⟩ (execs (act6 w) (lawE w L fa cd)) (AX w s h₀ L sc tr tx up dp pl Dl I ws (k + 1) a4 oI) E { s with heap := h, toks := tk, gens := gs } := by
  refine law_6a X TT hroom hu O qI hk hb F N C lf la zz ?_
  intro h' tk' to' its' cO' o3' c3' F' N' d3' hit zz'
  exact law_6b X TT hroom hu O qI hk hb F' N' ⟨C.1, C.2.1, ⟨_, d3'⟩, C.2.2.2⟩ lf la ⟨zz'.1, zz.2.1, zz'.2, zz.2.2.2⟩ hit
theorem law_7 (X : (hd.heap_1 w.params).In h₀) (TT : Top topProg lg mean mg mb h₀) (hroom : d ≤ 360) (hu : u ≤ 1500)
    (O : LO L tx up dp pl tr Dl I) (qI : h₀.get? I = none) (hk : k ≤ 43) (hb : AllBare gs) (F : Fr h₀ L h (mmL sc (some (.ref to)) (some (.ref ha)) a3 a4 a5 a6))
    (N : News h₀ L h ((I, oI) :: LN L tr tx up dp pl Dl ha to ws vs its tv uv dv cH cO cT cU cD o o1 o2 o3 o4 ps tn)) (C : LC tr here o1 o2 o3 o4) (lf : LF w k n here T U D tv uv dv o kvs told its vs tn ps) (la : LA L tx up dp pl tr I tn) (zz : @LT.lt Nat _ tr to ∧ @LT.lt Nat _ tr ha ∧ @Ne Nat to I ∧ @Ne Nat ha I) :
    wpAny (model prg w) ⟨none, d, some [lawE w L fa cd], gd, u⟩ (execs (act7 w) (lawE w L fa cd)) (AX w s h₀ L sc tr tx up dp pl Dl I ws (k + 1) a4 oI) E { s with heap := h, toks := tk, gens := gs } := by
  refine law_7a X TT hroom hu O qI hk hb F N C lf la zz ?_
  intro h' tk' to' its' cO' o4' c4' F' N' d4' hit zz'
  exact law_7b X TT hroom hu O qI hk hb F' N' ⟨C.1, C.2.1, C.2.2.1, ⟨_, d4'⟩⟩ lf la ⟨zz'.1, zz.2.1, zz'.2, zz.2.2.2⟩ hit
end
end Mine
namespace Mine
theorem resetNa : True := by
  k_with_none
  w_top off
  trivial
section
variable {w : World} {s : Shared} {mg mb : Str → Option Value} {mean : ExcName → Option Value} {d u : Nat} {gd : Option (List Code)} {E : Value → Shared → Prop} {Q : Flow → Shared → Prop} {L fa : Addr} {cd : Value} {h₀ : Heap}
variable {h : Heap} {tk : Nat} {gs : Array GenState} {told : List (Nat × Nat)} {its : List Value} {cO : Nat} {to : Addr} {vs : List Value} {cH : Nat} {ha : Addr} {here n : Nat} {T : Nat → Str} {U D : Nat → Nat} {tv uv dv : List Value} {o : Obj} {kvs : List (Str × Value)} {cT cU cD : Nat} {o1 o2 o3 o4 oI : Obj} {ps : Array Value} {tn : List (Addr × Obj)} {a3 a4 a5 a6 : Option Value}
variable {sc tr tx up dp pl Dl I : Addr} {ws : List Value} {k : Nat} {num : Int} {tr5 : Tok}
noncomputable def a5b (w : World) : List Stmt := tlS (act5 w) rfl
theorem miss_use {mm : Str → Option Value} {fr : List Env} {E : Value → Shared → Prop} {Q : Value → Shared → Prop} (X : (hd.heap_1 w.params).In h₀) (TT : Top topProg lg mean mg mb h₀) (hroom : d ≤ 370) (hu : u ≤ 2000) (Cd : CodeHd h₀ 180 178)
    (F : Fr h₀ L s.heap mm) (N : News h₀ L s.heap ((I, oI) :: LN L tr tx up dp pl Dl ha to ws vs its tv uv dv cH cO cT cU cD o o1 o2 o3 o4 ps tn)) (O : LO L tx up dp pl tr Dl I) (hk : k ≤ 44) (lf : LF w k n here T U D tv uv dv o kvs told its vs tn ps) (la : LA L tx up dp pl tr I tn) (zz : @LT.lt Nat _ tr to ∧ @LT.lt Nat _ tr ha ∧ @Ne Nat to I ∧ @Ne Nat ha I)
    (hQ : ∀ h' tk md mv c ps' tn2, Fr h₀ L h' mm → News h₀ L h' ((md, listOf (List.toArray mv) c) :: (I, oI) :: LN L tr tx up dp pl Dl ha to ws vs its tv uv dv cH cO cT cU cD o o1 o2 o3 o4 ps' (tn2 ++ tn)) → IntsAre mv (intsN (missing U told)) → TabN ps' (tn2 ++ tn) → LA L tx up dp pl tr I (tn2 ++ tn) → Q (.ref md) { s with heap := h', toks := tk }) :
    wpAny (model prg w) ⟨none, d, some fr, gd, u⟩ (call (.ref 181) [.ref to, .ref tr]) Q E s := by
  obtain ⟨p1, p2, p3, p4, p5, p6, p7, p8⟩ := O
  obtain ⟨z1, z2, z3, z4⟩ := zz
  have b4 := (lf.len hk).2.2.2
  have b1 := (lf.len hk).1
  have Nn := N
  obtain ⟨n0, N1⟩ := List.forall_mem_cons.mp N
  obtain ⟨n1, n2, n3, n4, n5, n6, n7, n8, n9, n10, n11, n12, n13, n14⟩ := news13 N1
  have g : ∀ {ob : Obj} {b : Addr}, @Ne Nat b 178 → s.heap.get? b = some ob → (hideAll s.heap [178]).get? b = some ob := fun hb e => hideAll_get _ e fun hm => hb (List.mem_singleton.mp hm)
  have k0 : Kp h₀ (hideAll s.heap [178]) := base_hide F _ (List.forall_mem_cons.mpr ⟨n13.2.2, List.forall_mem_nil _⟩)
  have tt : Tups (hideAll s.heap [178]) its told := ⟨lf.tup.1, fun i p q e => by
    obtain ⟨a, t1, t2, e1, e2⟩ := lf.tup.2 i p q e
    exact ⟨a, t1, t2, e1, g (la _ e2).1.2.1 (n14 _ e2).1⟩⟩
  have tab : TabL ps (hideAll s.heap [178]) := by
    rcases lf.tab with e | ⟨c', o', e, m, r⟩
    · exact .inl e
    · exact .inr ⟨c', e, r _ (g (la _ m).1.2.1 (n14 _ m).1)⟩
  refine wpAny_call (codeAny_mono (missing_any (n := n) (D := D) (cR := 0) (X.keeps k0) (TT.keeps k0) (fun b ob e => of_hideAll _ e) (Nat.le_of_eq (hideAll_size _ _)) (Cd.keeps k0) (ps := ps) (List.forall_mem_cons.mpr ⟨⟨n13.1, hideAll_none _ (.head _)⟩, List.forall_mem_nil _⟩) tab
    (g (show @Ne Nat _ _ from by omega) n4.1) (g (show @Ne Nat _ _ from by omega) n7.1) lf.tU (g (show @Ne Nat _ _ from by omega) n6.1) lf.tD (by omega) lf.tr.pos lf.uu lf.tr.root.2.1 (fun p h0 hp => (lf.tr.node p h0 hp).2.1) (g (show @Ne Nat _ _ from by omega) n3.1) tt (fun x hx => (lf.bd x hx).1) (by omega) hroom hu) fun r s' hr => ?_)
  obtain ⟨h', tk, md, mv, c, ps', rfl, rfl, kk, ⟨e1, e2⟩, hi, e3, _, e5⟩ := hr
  have gk : ∀ {b : Addr} {ob : Obj}, @Ne Nat b 178 → s.heap.get? b = some ob ∧ b ≠ L ∧ h₀.get? b = none → h'.get? b = some ob ∧ b ≠ L ∧ h₀.get? b = none := fun hb e => ⟨kk _ _ (g hb e.1), e.2⟩
  have F' : Fr h₀ L h' mm := by
    obtain ⟨oL, es, ep, hoL, r⟩ := F.ns
    exact ⟨⟨oL, es, ep, kk _ _ (g (show @Ne Nat _ _ from by omega) hoL), r⟩, fun b ob e => kk _ _ (k0 _ _ e), F.above⟩
  have om := out_of F e2
  have base : ∀ tn2 : List (Addr × Obj), (∀ q ∈ tn2, h'.get? q.1 = some q.2 ∧ q.1 ≠ L ∧ h₀.get? q.1 = none) → News h₀ L h' ((md, listOf (List.toArray mv) c) :: (I, oI) :: LN L tr tx up dp pl Dl ha to ws vs its tv uv dv cH cO cT cU cD o o1 o2 o3 o4 ps' (tn2 ++ tn)) := by
    intro tn2 h2
    have g8 : ∀ {b : Addr}, @LT.lt Nat _ 178 b → @Ne Nat b 178 := fun h => Nat.ne_of_gt h
    have t8 : @LT.lt Nat _ 178 tx := Nat.lt_trans p1 (Nat.lt_of_le_of_lt (Nat.le_add_right L 4) p2)
    have t7 : @LT.lt Nat _ 178 tr := Nat.lt_trans t8 (Nat.lt_trans p3 (Nat.lt_trans p4 (Nat.lt_trans p5 p6)))
    refine List.forall_mem_cons.mpr ⟨⟨e1, om.2, om.1⟩, List.forall_mem_cons.mpr ⟨gk (g8 (Nat.lt_trans t7 (Nat.lt_trans p7 p8))) n0, news13_of (gk (g8 (Nat.lt_trans t7 p7)) n1) (gk (g8 (Nat.lt_trans t7 z2)) n2) (gk (g8 (Nat.lt_trans t7 z1)) n3) (gk (g8 t7) n4) (gk (g8 (Nat.lt_trans t8 (Nat.lt_trans p3 (Nat.lt_trans p4 p5)))) n5) (gk (g8 (Nat.lt_trans t8 (Nat.lt_trans p3 p4))) n6) (gk (g8 (Nat.lt_trans t8 p3)) n7) (gk (g8 t8) n8) (gk (g8 (Nat.lt_of_lt_of_le p1 (Nat.le_add_right L 4))) n9) (gk (g8 (Nat.lt_of_lt_of_le p1 (Nat.le_add_right L 3))) n10) (gk (g8 (Nat.lt_of_lt_of_le p1 (Nat.le_add_right L 2))) n11) (gk (g8 (Nat.lt_of_lt_of_le p1 (Nat.le_add_right L 1))) n12) ⟨e3, n13.2⟩ fun q hq => ?_⟩⟩
    rcases List.mem_append.mp hq with hq | hq
    · exact h2 q hq
    · exact gk (la q hq).1.2.1 (n14 q hq)
  rcases e5 with rfl | ⟨c', oc, e6, ⟨e7, e8⟩, e9⟩
  · exact hQ h' tk md mv c ps' [] F' (base [] (fun q hq => nomatch hq)) hi lf.tab la
  · have oc2 := out_of F e8
    have ne : ∀ {b : Addr} {ob : Obj}, s.heap.get? b = some ob → @Ne Nat c' b := fun e z => by
      rw [← (show c' = _ from z), e8] at e; cases e
    refine hQ h' tk md mv c ps' [(c', oc)] F' (base [(c', oc)] (List.forall_mem_cons.mpr ⟨⟨e7, oc2.2, oc2.1⟩, List.forall_mem_nil _⟩)) hi (.inr ⟨c', oc, e6, .head _, e9⟩) (la.cons ⟨⟨ne n0.1, ne n13.1, ne n11.1, ne n10.1, ne n9.1⟩, ne n8.1, ne n7.1, ne n6.1, ne n5.1, ne n4.1⟩)
theorem missing_facts (hU : Plain.Up n U) (h0 : U 0 = 0) (bd : ∀ x ∈ told, x.1 < n) : (missing U told).Nodup ∧ ∀ q ∈ missing U told, q < n ∧ (q, 1) ∉ told := by
  have h1 := firsts_ok hU h0 bd
  refine ⟨h1.1.filter _, fun q hq => ?_⟩
  obtain ⟨h2, h3⟩ := List.mem_filter.mp hq
  obtain ⟨x, hx, rfl⟩ := List.mem_map.mp h2
  exact ⟨(h1.2 x hx).2, by simpa using h3⟩
local macro_rules | `(tactic| walk_at "subscriptTail") => rul (qsub `PySem.Value.int) `subLN "AMDDr_S!" 0 'n'
local macro_rules | `(tactic| walk_at "exec Assign cons ListComp") => rul none `assign_comp "SRRD_" 0 'n'
local macro_rules | `(tactic| walk_at "call ref") => do rul (some (← `(call (Value.ref 181) [Value.ref _, Value.ref _]))) `miss_use "AAOOAAAAAAAA_!" 0 'n'
noncomputable def Fin5 (w : World) (s : Shared) (h₀ : Heap) (L fa : Addr) (cd : Value) (sc : Addr) (d u : Nat) (gd : Option (List Code)) (Q : Flow → Shared → Prop) (E : Value → Shared → Prop) (gs : Array GenState) (tr tx up dp pl Dl ha to I : Addr) (oI : Obj) (ws vs its tv uv dv : List Value) (cH cO cT cU cD : Nat) (o o1 o2 o3 o4 : Obj) (told2 : List (Nat × Nat)) (a3 a4 a5 : Option Value) (tn : List (Addr × Obj)) : Prop :=
  ∀ h tk mi mis cM ps mn tn2, Fr h₀ L h (mmL sc (some (.ref to)) (some (.ref ha)) a3 a4 a5 (some (.ref mi))) → News h₀ L h ((mi, listOf (List.toArray mis) cM) :: (I, oI) :: LN L tr tx up dp pl Dl ha to ws vs its tv uv dv cH cO cT cU cD o o1 o2 o3 o4 ps (mn ++ (tn2 ++ tn))) → TupN mis told2 mn → TabN ps (mn ++ (tn2 ++ tn)) → LA L tx up dp pl tr I (mn ++ (tn2 ++ tn)) →
    wpAny (model prg w) ⟨none, d, some [lawE w L fa cd], gd, u⟩ (execs (a5b w) (lawE w L fa cd)) Q E { s with heap := h, toks := tk, gens := gs }
theorem law_5a (X : (hd.heap_1 w.params).In h₀) (TT : Top topProg lg mean mg mb h₀) (hroom : d ≤ 360) (hu : u ≤ 1500)
    (O : LO L tx up dp pl tr Dl I) (qI : h₀.get? I = none) (hk : k ≤ 43) (hb : AllBare gs) (F : Fr h₀ L h (mmL sc (some (.ref to)) (some (.ref ha)) a3 a4 a5 a6))
    (N : News h₀ L h ((I, oI) :: LN L tr tx up dp pl Dl ha to ws vs its tv uv dv cH cO cT cU cD o o1 o2 o3 o4 ps tn)) (C : LC tr here o1 o2 o3 o4) (lf : LF w k n here T U D tv uv dv o kvs told its vs tn ps) (la : LA L tx up dp pl tr I tn) (zz : @LT.lt Nat _ tr to ∧ @LT.lt Nat _ tr ha ∧ @Ne Nat to I ∧ @Ne Nat ha I) (Cd : CodeHd h₀ 180 178) (fin : Fin5 w s h₀ L fa cd sc d u gd Q E gs tr tx up dp pl Dl ha to I oI ws vs its tv uv dv cH cO cT cU cD o o1 o2 o3 o4 ((missing U told).map fun q => (q, 1)) a3 a4 a5 tn) :
    wpAny (model prg w) ⟨none, d, some [lawE w L fa cd], gd, u⟩ (execs (act5 w) (lawE w L fa cd)) Q E { s with heap := h, toks := tk, gens := gs } := by
  obtain ⟨p1, p2, p3, p4, p5, p6, p7, p8⟩ := id O
  obtain ⟨z1, z2, z3, z4⟩ := id zz
  obtain ⟨d1, ⟨th, d2⟩, ⟨c3, d3⟩, c4, d4⟩ := C
  have hA2 : ∀ q ∈ tn, @Ne Nat q.1 (L + 2) := fun q hq => (la q hq).1.2.2.1
  have hA3 : ∀ q ∈ tn, @Ne Nat q.1 (L + 3) := fun q hq => (la q hq).1.2.2.2.1
  have hA4 : ∀ q ∈ tn, @Ne Nat q.1 (L + 4) := fun q hq => (la q hq).1.2.2.2.2
  have hk4 : k ≤ 44 := by omega
  obtain ⟨b1, b2, b3, b4⟩ := lf.len hk4
  have hUp := lf.uu
  have hU0 := lf.tr.root.2.1
  unfold LN at N
  unfold lawE lawSc scS act5 ibS
  k_steps
  rename_i h2 tk2 md mv cm ps2 tn2 F2 N2 hmi htab la2
  have hI1 : @LT.lt Nat _ I h2.objs.size := Heap.lt_size (N2 (I, oI) (by k_mem)).1
  obtain ⟨hmn, hmq⟩ := missing_facts hUp hU0 (fun x hx => (lf.bd x hx).1)
  have hml : mv.length = (missing U told).length := by rw [hmi.length]; unfold intsN; rw [List.length_map]
  have hmz := nodup_len n _ hmn (fun q hq => (hmq q hq).1)
  clear F N
  refine comp_store (s := { s with heap := h2, toks := tk2, gens := gs }) (items := List.toArray mv) (I := h2.objs.size) (D := h2.objs.size + 1) (C := h2.objs.size + 2) rfl rfl rfl ?q3 ?q4 ?q5 ?q6 ?q1 ?q7 ?q2 F2 N2
    (fun i acc news g => ∃ mn, news = (md, listOf (List.toArray mv) cm) :: (I, oI) :: LN L tr tx up dp pl Dl ha to ws vs its tv uv dv cH cO cT cU cD o o1 o2 o3 o4 ps2 (mn ++ (tn2 ++ tn)) ∧ g = gs ∧ TupN acc (((missing U told).take i).map fun q => (q, 1)) mn ∧ ∀ q ∈ mn, @LT.lt Nat _ h2.objs.size q.1) ⟨[], rfl, rfl, ⟨rfl, fun j p q e => by simp at e⟩, fun q hq => nomatch hq⟩ ?hl ?turn ?done ?sz
  case q1 => decide
  case q2 => decide
  case q3 => exact rfl
  case q4 => exact rfl
  case q5 => with_unfolding_all rfl
  case q6 => exact rfl
  case q7 => exact rfl
  case hl => rintro i acc news' g ⟨mn, rfl, _⟩; exact ⟨cm, .head _⟩
  case sz => rw [sizeLine_eq, List.size_toArray]; omega
  case done =>
    rintro acc c h' tk g news' ⟨mn, rfl, rfl, hacc, hmo⟩ F' N' ne lt
    have hsz : (List.toArray mv).size = (missing U told).length := by rw [List.size_toArray, hml]
    rw [hsz, List.take_length] at hacc
    refine fin h' tk (h2.objs.size + 1) acc c ps2 mn tn2 (set_missing F' rfl) (List.forall_mem_cons.mpr ⟨N' _ (.head _), (List.forall_mem_cons.mp (List.forall_mem_cons.mp N').2).2⟩) hacc (htab.more mn) ?_
    intro q hq
    rcases List.mem_append.mp hq with hq | hq
    · exact O.apartI (Nat.lt_trans hI1 (hmo q hq))
    · exact la2 q hq
  case turn =>
    rintro i v acc news₁ h₁ tk₁ g₁ oI' oD oL mC E' hv ⟨mn, rfl, rfl, hacc, hmo⟩ T2
    obtain ⟨p, t, hp, rfl⟩ := intsN_at hmi hv
    have FC := T2.F
    have NC := T2.N
    have hxC := T2.hx
    have hlt := T2.lt
    clear fin hb
    refine wpAny_pure ?_
    rw [if_pos rfl]
    refine as_end ?_
    k_fold
    k_steps
    rename_i D' h' F' N' l1
    have tne := T2.ne
    have nsL := T2.hL _ (N' (L, oL) (by k_mem)).1
    obtain ⟨nD, N'⟩ := List.forall_mem_cons.mp N'
    obtain ⟨nI', N'⟩ := List.forall_mem_cons.mp N'
    obtain ⟨nDD, N'⟩ := List.forall_mem_cons.mp N'
    obtain ⟨nL, N'⟩ := List.forall_mem_cons.mp N'
    have eD : @Ne Nat D' h2.objs.size ∧ @Ne Nat D' (h2.objs.size + 1) ∧ @Ne Nat D' L := ⟨Nat.ne_of_gt l1.1, Nat.ne_of_gt l1.2.1, Nat.ne_of_gt l1.2.2.1⟩
    have lD : @LT.lt Nat _ h2.objs.size D' := l1.1
    show CPost _ _ _ _ _ _ _ _ _ _ _
    refine ⟨h', tk₁ + 1, g₁, (md, listOf (List.toArray mv) cm) :: (I, oI) :: LN L tr tx up dp pl Dl ha to ws vs its tv uv dv cH cO cT cU cD o o1 o2 o3 o4 ps2 (((D', pairO p 1 t tk₁) :: mn) ++ (tn2 ++ tn)), rfl, F'.keep, nsL, ⟨_, F'.ns⟩, ?_, ?_, (D', pairO p 1 t tk₁) :: mn, rfl, rfl, ?_, ?_⟩
    · exact List.forall_mem_cons.mpr ⟨nI', List.forall_mem_cons.mpr ⟨nDD, ins (pre := (md, listOf (List.toArray mv) cm) :: (I, oI) :: LN L tr tx up dp pl Dl ha to ws vs its tv uv dv cH cO cT cU cD o o1 o2 o3 o4 ps2 []) N' nD⟩⟩
    · exact ins (pre := (md, listOf (List.toArray mv) cm) :: (I, oI) :: LN L tr tx up dp pl Dl ha to ws vs its tv uv dv cH cO cT cU cD o o1 o2 o3 o4 ps2 []) tne eD
    · rw [List.take_add_one, hp, List.map_append]
      exact TupN.snoc ⟨hacc.1, fun i p q e => by obtain ⟨a, t1, t2, e1, e2⟩ := hacc.2 i p q e; exact ⟨a, t1, t2, e1, .tail _ e2⟩⟩ rfl (.head _)
    · exact List.forall_mem_cons.mpr ⟨lD, hmo⟩
end
end Mine
namespace Mine
theorem resetNb : True := by
  k_with_none
  w_top off
  trivial
section
variable {w : World} {s : Shared} {mg mb : Str → Option Value} {mean : ExcName → Option Value} {d u : Nat} {gd : Option (List Code)} {E : Value → Shared → Prop} {Q : Flow → Shared → Prop} {L fa : Addr} {cd : Value} {h₀ : Heap}
variable {h : Heap} {tk : Nat} {gs : Array GenState} {told : List (Nat × Nat)} {its : List Value} {cO : Nat} {to : Addr} {vs : List Value} {cH : Nat} {ha : Addr} {here n : Nat} {T : Nat → Str} {U D : Nat → Nat} {tv uv dv : List Value} {o : Obj} {kvs : List (Str × Value)} {cT cU cD : Nat} {o1 o2 o3 o4 oI : Obj} {ps : Array Value} {tn : List (Addr × Obj)} {a3 a4 a5 a6 : Option Value}
variable {sc tr tx up dp pl Dl I : Addr} {ws : List Value} {k : Nat} {num : Int} {tr5 : Tok}
theorem LF.join {tn0 : List (Addr × Obj)} {ps0 : Array Value} {its' vs' : List Value} (lf : LF w k n here T U D tv uv dv o kvs told its vs tn0 ps0) (h1 : TupN its' (told ++ (missing U told).map fun q => (q, 1)) tn) (h2 : StrsAre vs' ((told ++ (missing U told).map fun q => (q, 1)).map (nm T))) (h3 : TabN ps tn) : LF w (k + 1) n here T U D tv uv dv o kvs (told ++ (missing U told).map fun q => (q, 1)) its' vs' tn ps := by
  have hm := missing_facts lf.uu lf.tr.root.2.1 (fun x hx => (lf.bd x hx).1)
  exact { lf with
    nk := by have := lf.nk; omega
    tup := h1
    bd := fun x hx => by
      rcases List.mem_append.mp hx with hx | hx
      · exact lf.bd x hx
      · obtain ⟨q, hq, rfl⟩ := List.mem_map.mp hx
        exact ⟨(hm.2 q hq).1, by show 1 ≤ 3; omega⟩
    tl := by
      have h4 := cnt_more (n := n) (missing U told) told hm.1 hm.2
      have h5 := lf.tl
      unfold cnt at h4
      rw [List.length_append, List.length_map]
      omega
    hv := h2
    tab := h3 }
local macro_rules | `(tactic| walk_at "binaryOp Add ref ref") => rulx none `addN "AAMMX_" 3 'l' `(tactic| ((try simp only [List.length_append, List.length_cons, List.length_nil]); omega))
local macro_rules | `(tactic| walk_at "eval ListComp") => do rul (some (← `(eval (PySem.Expr.ListComp _ [_, _] _ _) _))) `comp2_eval "RRD_" 0 'n'
local macro_rules | `(tactic| walk_at "callWith ref") => do rul (some (← `(callWith _ (Value.ref 148) _ (backTo _ (starEach (_ :: _) _)) []))) `callWith_bd "_" 0 'n'
local macro_rules | `(tactic| walk_at "call ref") => rul (qcall `PySem.Value.ref (qn 119) "s") `par_use "AAAAAAOAA_!" 5 'F'
local macro_rules | `(tactic| walk_at "call ref") => rul (qcall `PySem.Value.ref (qn 155) "rr") `diff_use "AAAAAOMMAA_!" 4 'F'
local macro_rules | `(tactic| walk_at "call type:list") => rul (qcall `PySem.Value.type (qs "list") "r") `list_keys "RAAMAAA_!" 9 'n'
local macro_rules | `(tactic| walk_at "binaryOp Add str str") => rulx none `KXadd.add "XXD_" 3 'n' `(tactic| (first | with_reducible assumption | exact Nat.le_refl _))
theorem law_5b {tn0 : List (Addr × Obj)} {ps0 : Array Value} {mi : Addr} {mis : List Value} {cM : Nat} (X : (hd.heap_1 w.params).In h₀) (TT : Top topProg lg mean mg mb h₀) (hroom : d ≤ 360) (hu : u ≤ 1500)
    (O : LO L tx up dp pl tr Dl I) (qI : h₀.get? I = none) (hk : k ≤ 43) (hb : AllBare gs) (F : Fr h₀ L h (mmL sc (some (.ref to)) (some (.ref ha)) a3 a4 a5 (some (.ref mi))))
    (N : News h₀ L h ((mi, listOf (List.toArray mis) cM) :: (I, oI) :: LN L tr tx up dp pl Dl ha to ws vs its tv uv dv cH cO cT cU cD o o1 o2 o3 o4 ps tn)) (C : LC tr here o1 o2 o3 o4) (lf : LF w k n here T U D tv uv dv o kvs told its vs tn0 ps0) (la : LA L tx up dp pl tr I tn) (zz : @LT.lt Nat _ tr to ∧ @LT.lt Nat _ tr ha ∧ @Ne Nat to I ∧ @Ne Nat ha I)
    (hmis : TupN (its ++ mis) (told ++ (missing U told).map fun q => (q, 1)) tn) (htab : TabN ps tn) (hml : mis.length ≤ 45) :
    wpAny (model prg w) ⟨none, d, some [lawE w L fa cd], gd, u⟩ (execs (a5b w) (lawE w L fa cd)) (AX w s h₀ L sc tr tx up dp pl Dl I ws (k + 1) a4 oI) E { s with heap := h, toks := tk, gens := gs } := by
  obtain ⟨p1, p2, p3, p4, p5, p6, p7, p8⟩ := id O
  obtain ⟨z1, z2, z3, z4⟩ := id zz
  obtain ⟨d1, ⟨th, d2⟩, ⟨c3, d3⟩, c4, d4⟩ := C
  have hA2 : ∀ q ∈ tn, @Ne Nat q.1 (L + 2) := fun q hq => (la q hq).1.2.2.1
  have hA3 : ∀ q ∈ tn, @Ne Nat q.1 (L + 3) := fun q hq => (la q hq).1.2.2.2.1
  have hA4 : ∀ q ∈ tn, @Ne Nat q.1 (L + 4) := fun q hq => (la q hq).1.2.2.2.2
  have hk4 : k ≤ 44 := by omega
  obtain ⟨b1, b2, b3, b4⟩ := lf.len hk4
  have hUp := lf.uu
  have hLs : h₀.objs.size ≤ L := F.above
  have hhv := lf.hv
  have hTr := lf.tr
  have hfl : vs.length ≤ 4000 := by omega
  unfold LN at N
  unfold lawE lawSc scS a5b tlS
  k_steps
  rename_i to2 h2 lt2 h3 F3 N3
  have l1 : @LT.lt Nat _ tr to2 := lt2 (tr, _) (by k_mem)
  have l2 : @LT.lt Nat _ I to2 := lt2 (I, oI) (by k_mem)
  have habl := abv_len hTr hUp lf.bd b1 b4
  clear lt2
  refine par_comp (I := h3.objs.size) (D := h3.objs.size + 1) (C := h3.objs.size + 2) (told := told) (T := T) (U := U) (cH := cH) (vs := vs) (ha := ha) (n := n) rfl rfl rfl ?q1 ?q2 ?q3 ?q4 X TT hroom hu ?q5 ?q6 F3 N3 ?q7 lf.hv hTr hUp lf.bd ?q8 ?q9 hb ?hBl ?ev1 ?ev2 ?hQ
  case q1 => decide
  case q2 => exact rfl
  case q3 => decide
  case q4 => decide
  case q5 => show ScopeKind.function ≠ _; decide
  case q6 => exact rfl
  case q7 => k_mem
  case q8 => omega
  case q9 => omega
  case hBl => exact fun h3 k3 n3 => ⟨rfl, k3, .cons (by show ScopeKind.function ≠ _; decide) rfl n3 (get_above hLs) trivial⟩
  case ev1 =>
    intro h3 tk3 g3 mC p t ys E' Qx oL news' FC hxC NC hBl hb3 hpl hanc hq
    clear F3 N3 hb
    show wpAny _ _ _ _ _ _
    k_steps
    rename_i G5 _ _
    exact hq _ _ _ _ G5
  case ev2 =>
    intro h3 tk3 g3 mC y t E' Qx FC hxC hyl hq
    clear F3 N3 hb
    show wpAny _ _ _ _ _ _
    k_steps
    exact hq _ _
  case hQ =>
    intro acc c h' tk g hacc hb2 F' N' ne lt
    have hBl : Below ⟨none, d, some [lawE w L fa cd], gd, u⟩ h₀ [lawE w L fa cd] h' := ⟨rfl, F'.keep, .cons (by show ScopeKind.function ≠ _; decide) rfl F'.ns (get_above hLs) trivial⟩
    unfold lawE lawSc scS at hBl
    clear F3 N3
    show wpAny _ _ _ _ _ _
    k_steps
    rename_i h5 tk5 x5 DG5 F5 N5
    refine ⟨⟨_, _, F5.keep _ _ (X 148 _ (by k_is))⟩, ?_⟩
    show wpAny _ _ (call (.ref 148) [.ref _]) _ _ _
    refine fromkeys_diff (f := 148) X TT DG5 hacc hLs ?e1 ?e2 ?e3 ?e4 ?e5 (X 148 _ (by k_is)) ?_
    case e1 => show ScopeKind.function ≠ _; decide
    case e2 => exact rfl
    case e3 => omega
    case e4 => omega
    case e5 => rw [List.length_map]; omega
    intro h6 tk6 B oB hdB F6 N6 lB
    have hmf := missing_facts hUp hTr.root.2.1 (fun x hx => (lf.bd x hx).1)
    have hmz := nodup_len n _ hmf.1 (fun q hq => (hmf.2 q hq).1)
    have hkeys := joins hTr hUp (fun x hx => (lf.bd x hx).1)
    have hkl : (fk (sel ((abv U told).map fun q => nm T (q, 1)) (told.map (nm T)))).length ≤ 1000 := by
      have := congrArg List.length hkeys
      rw [List.length_map, List.length_map, List.length_map] at this
      omega
    have lB0 : @LT.lt Nat _ L B := Nat.lt_trans (Nat.lt_of_le_of_lt (Nat.le_add_right L 3) (Nat.lt_trans O.low.2.1 O.up5.2.2.1)) (lB (tr, _) (by k_mem))
    have lo : (B == sysModules) = false := beq_eq_false_iff_ne.mpr (Nat.ne_of_gt (Nat.lt_trans (show @LT.lt Nat _ sysModules 178 from by decide) (Nat.lt_trans p1 lB0)))
    generalize fk (sel ((abv U told).map fun q => nm T (q, 1)) (told.map (nm T))) = ks at hdB hkeys hkl
    clear DG5 F5 N5 F' N' hBl ne lt hacc
    show wpAny _ _ _ _ _ _
    k_steps
    rename_i Bk ck h7 tk7 us F7 N7 lk hus
    rw [hkeys] at hus
    have husl : us.length ≤ 45 := by rw [hus.length, List.length_map, List.length_map]; omega
    clear F6 N6 lB
    k_steps
    rename_i ha2 h8 lt8 h9 kF kN
    have m1 : @LT.lt Nat _ tr ha2 := lt8 (tr, _) (by k_mem)
    have m2 : @LT.lt Nat _ I ha2 := lt8 (I, oI) (by k_mem)
    have hvs2 : StrsAre (vs ++ us) ((told ++ (missing U told).map fun q => (q, 1)).map (nm T)) := by
      rw [List.map_append]
      exact lf.hv.append' hus
    exact AX.of (ha := ha2) (to := to2) (vs := vs ++ us) (its := its ++ mis) (cH := 0) (cO := 0) hb2 (set_have kF mmL_told)
      (LN.ha (LN.to (fun q hq => kN q (.tail _ (.tail _ (.tail _ (.tail _ (.tail _ (.tail _ hq))))))) (kN _ (.tail _ (.tail _ (.tail _ (.tail _ (.head _))))))) (kN _ (.head _))) ⟨d1, ⟨_, d2⟩, ⟨_, d3⟩, _, d4⟩ (lf.join hmis hvs2 htab) la ⟨l1, m1, Nat.ne_of_gt l2, Nat.ne_of_gt m2⟩
theorem law_5 (X : (hd.heap_1 w.params).In h₀) (TT : Top topProg lg mean mg mb h₀) (hroom : d ≤ 360) (hu : u ≤ 1500)
    (O : LO L tx up dp pl tr Dl I) (qI : h₀.get? I = none) (hk : k ≤ 43) (hb : AllBare gs) (F : Fr h₀ L h (mmL sc (some (.ref to)) (some (.ref ha)) a3 a4 a5 a6))
    (N : News h₀ L h ((I, oI) :: LN L tr tx up dp pl Dl ha to ws vs its tv uv dv cH cO cT cU cD o o1 o2 o3 o4 ps tn)) (C : LC tr here o1 o2 o3 o4) (lf : LF w k n here T U D tv uv dv o kvs told its vs tn ps) (la : LA L tx up dp pl tr I tn) (zz : @LT.lt Nat _ tr to ∧ @LT.lt Nat _ tr ha ∧ @Ne Nat to I ∧ @Ne Nat ha I) (Cd : CodeHd h₀ 180 178) :
    wpAny (model prg w) ⟨none, d, some [lawE w L fa cd], gd, u⟩ (execs (act5 w) (lawE w L fa cd)) (AX w s h₀ L sc tr tx up dp pl Dl I ws (k + 1) a4 oI) E { s with heap := h, toks := tk, gens := gs } := by
  refine law_5a X TT hroom hu O qI hk hb F N C lf la zz Cd ?_
  intro h' tk' mi' mis' cM' ps' mn tn2 F' N' hmis htab la'
  refine law_5b (tn0 := tn) (ps0 := ps) X TT hroom hu O qI hk hb F' N' C lf la' zz ?_ htab ?_
  · have h1 : TupN its told (tn2 ++ tn) := ⟨lf.tup.1, fun i p q e => by obtain ⟨a, t1, t2, e1, e2⟩ := lf.tup.2 i p q e; exact ⟨a, t1, t2, e1, List.mem_append_right _ e2⟩⟩
    exact h1.more hmis
  · have hmf := missing_facts lf.uu lf.tr.root.2.1 (fun x hx => (lf.bd x hx).1)
    have hmz := nodup_len n _ hmf.1 (fun q hq => (hmf.2 q hq).1)
    have hn := (lf.len (by omega)).2.2.2
    rw [hmis.1, List.length_map]; omega
end
end Mine
namespace Mine
theorem resetNc : True := by
  k_with_none
  w_top off
  trivial
section
variable {w : World} {s : Shared} {mg mb : Str → Option Value} {mean : ExcName → Option Value} {d u : Nat} {gd : Option (List Code)} {E : Value → Shared → Prop} {Q : Flow → Shared → Prop} {L fa : Addr} {cd : Value} {h₀ : Heap}
variable {h : Heap} {tk : Nat} {gs : Array GenState} {told : List (Nat × Nat)} {its : List Value} {cO : Nat} {to : Addr} {vs : List Value} {cH : Nat} {ha : Addr} {here n : Nat} {T : Nat → Str} {U D : Nat → Nat} {tv uv dv : List Value} {o : Obj} {kvs : List (Str × Value)} {cT cU cD : Nat} {o1 o2 o3 o4 oI : Obj} {ps : Array Value} {tn : List (Addr × Obj)} {a3 a4 a5 a6 : Option Value}
variable {sc tr tx up dp pl Dl I : Addr} {ws : List Value} {k : Nat} {num : Int} {tr5 : Tok}
noncomputable def ifT (L : List Stmt) {t : Expr} {b o : List Stmt} {p : Pos} {l : List Stmt} (_ : L = .If t b o p :: l) : Expr := t
noncomputable def ifP (L : List Stmt) {t : Expr} {b o : List Stmt} {p : Pos} {l : List Stmt} (_ : L = .If t b o p :: l) : Pos := p
noncomputable def stH (L : List Stmt) {a : Stmt} {l : List Stmt} (_ : L = a :: l) : Stmt := a
noncomputable def sA (w : World) : Stmt := stH (lawB w) rfl
noncomputable def sR (w : World) : Stmt := stH (lawB w).tail rfl
theorem lawB_eq (w : World) : lawB w = sA w :: sR w :: .If (ifT (lawB w).tail.tail rfl) (act0 w) [.If (ifT (Mine.o0 w) rfl) (act1 w) [.If (ifT (Mine.o1 w) rfl) (act3 w) [.If (ifT (Mine.o3 w) rfl) (act5 w) [.If (ifT (Mine.o5 w) rfl) (act6 w) (act7 w) (ifP (Mine.o5 w) rfl)] (ifP (Mine.o3 w) rfl)] (ifP (Mine.o1 w) rfl)] (ifP (Mine.o0 w) rfl)] (ifP (lawB w).tail.tail rfl) :: actC w := by
  with_unfolding_all rfl
theorem law_after {Q : Flow → Shared → Prop} {act : Int} {ta : Tok} {f : Flow} {s' : Shared} (X : (hd.heap_1 w.params).In h₀) (TT : Top topProg lg mean mg mb h₀) (hroom : d ≤ 360) (hu : u ≤ 1500) (O : LO L tx up dp pl tr Dl I) (qI : h₀.get? I = none) (hk : k ≤ 43)
    (ax : AX w s h₀ L sc tr tx up dp pl Dl I ws (k + 1) (some (.int act ta)) oI f s') : wpAny (model prg w) ⟨none, d, some [lawE w L fa cd], gd, u⟩ (execs (actC w) (lawE w L fa cd)) (ForFlow Q fun s₃ => (∃ a, LX w s h₀ L sc tr tx up dp pl Dl I ws (k + 1) a s₃) ∧ s₃.heap.get? I = some oI) E s' := by
  obtain ⟨_, ⟨h, tk, gs, told, its, cO, to, vs, cH, ha, here, n, T, U, D, tv, uv, dv, o, kvs, cT, cU, cD, o1, o2, o3, o4, ps, tn, a3, a5, a6, rfl, hb, F, N, C, lf, la, zz⟩, hI⟩ := ax
  obtain ⟨p1, p2, p3, p4, p5, p6, p7, p8⟩ := id O
  refine wpAny_mono (law_C (s := s) X TT hroom hu O qI (by omega) hb F (List.forall_mem_cons.mpr ⟨⟨hI, Ne.symm O.lp.tr.1, qI⟩, N⟩) C lf la zz) (fun f s' ax => ?_) fun _ _ z => z
  obtain ⟨rfl, lx, hI⟩ := ax
  exact ⟨⟨_, lx⟩, hI⟩
theorem law_t {t5 : Tok} {Q : Flow → Shared → Prop} (X : (hd.heap_1 w.params).In h₀) (TT : Top topProg lg mean mg mb h₀) (hroom : d ≤ 360) (hu : u ≤ 1500)
    (O : LO L tx up dp pl tr Dl I) (qI : h₀.get? I = none) (hk : k ≤ 43) (hb : AllBare gs) (F : Fr h₀ L h (mmL sc (some (.ref to)) (some (.ref ha)) (some (.int num t5)) a4 a5 a6))
    (N : News h₀ L h ((I, oI) :: LN L tr tx up dp pl Dl ha to ws vs its tv uv dv cH cO cT cU cD o o1 o2 o3 o4 ps tn)) (C : LC tr here o1 o2 o3 o4) (lf : LF w k n here T U D tv uv dv o kvs told its vs tn ps) (la : LA L tx up dp pl tr I tn) (zz : @LT.lt Nat _ tr to ∧ @LT.lt Nat _ tr ha ∧ @Ne Nat to I ∧ @Ne Nat ha I) (Cd : CodeHd h₀ 180 178) :
    wpAny (model prg w) ⟨none, d, some [lawE w L fa cd], gd, u⟩ (execs (lawB w) (lawE w L fa cd)) (ForFlow Q fun s₃ => (∃ a, LX w s h₀ L sc tr tx up dp pl Dl I ws (k + 1) a s₃) ∧ s₃.heap.get? I = some oI) E { s with heap := h, toks := tk, gens := gs } := by
  generalize tk = tk0
  rw [lawB_eq]
  have N0 := N
  unfold LN at N0
  clear N
  unfold sA sR stH ifT ifP
  generalize hb0 : act0 w = b0
  generalize hb1 : act1 w = b1
  generalize hb3 : act3 w = b3
  generalize hb5 : act5 w = b5
  generalize hb6 : act6 w = b6
  generalize hb7 : act7 w = b7
  generalize hbC : actC w = bC
  unfold lawE lawSc scS
  k_steps
  all_goals
    with_reducible rename Fr _ _ _ _ => F1
    with_reducible rename News _ _ _ _ => N1
    have kF := set_rest F1 mmL_act
  · subst hb0
    refine wpAny_mono (law_0 (s := s) (k := k) X TT hroom hu O qI hk hb kF N1 C lf la zz) (fun f s' ax => ?_) fun _ _ z => z
    obtain rfl := ax.1
    subst hbC
    exact law_after X TT hroom hu O qI hk ax
  · subst hb1
    refine wpAny_mono (law_1 (s := s) (k := k) X TT hroom hu O qI hk hb kF N1 C lf la zz) (fun f s' ax => ?_) fun _ _ z => z
    obtain rfl := ax.1
    refine wpAny_execs_nil ?_
    subst hbC
    exact law_after X TT hroom hu O qI hk ax
  · subst hb3
    refine wpAny_mono (law_3 (s := s) (k := k) X TT hroom hu O qI hk hb kF N1 C lf la zz) (fun f s' ax => ?_) fun _ _ z => z
    obtain rfl := ax.1
    refine wpAny_execs_nil ?_
    refine wpAny_execs_nil ?_
    subst hbC
    exact law_after X TT hroom hu O qI hk ax
  · subst hb5
    refine wpAny_mono (law_5 (s := s) (k := k) X TT hroom hu O qI hk hb kF N1 C lf la zz Cd) (fun f s' ax => ?_) fun _ _ z => z
    obtain rfl := ax.1
    refine wpAny_execs_nil ?_
    refine wpAny_execs_nil ?_
    refine wpAny_execs_nil ?_
    subst hbC
    exact law_after X TT hroom hu O qI hk ax
  · subst hb6
    refine wpAny_mono (law_6 (s := s) (k := k) X TT hroom hu O qI hk hb kF N1 C lf la zz) (fun f s' ax => ?_) fun _ _ z => z
    obtain rfl := ax.1
    refine wpAny_execs_nil ?_
    refine wpAny_execs_nil ?_
    refine wpAny_execs_nil ?_
    refine wpAny_execs_nil ?_
    subst hbC
    exact law_after X TT hroom hu O qI hk ax
  · subst hb7
    refine wpAny_mono (law_7 (s := s) (k := k) X TT hroom hu O qI hk hb kF N1 C lf la zz) (fun f s' ax => ?_) fun _ _ z => z
    obtain rfl := ax.1
    refine wpAny_execs_nil ?_
    refine wpAny_execs_nil ?_
    refine wpAny_execs_nil ?_
    refine wpAny_execs_nil ?_
    subst hbC
    exact law_after X TT hroom hu O qI hk ax
theorem law_for {Q : Flow → Shared → Prop} {ns : List Int} {px : Pos} {a : Option Value} {st : Shared} (X : (hd.heap_1 w.params).In h₀) (TT : Top topProg lg mean mg mb h₀) (hroom : d ≤ 360) (hu : u ≤ 1500) (O : LO L tx up dp pl tr Dl I) (qI : h₀.get? I = none) (Cd : CodeHd h₀ 180 178)
    (hI : I = st.heap.objs.size) (hw : IntsAre ws ns) (hws : ws.length ≤ 44) (lx0 : LX w s h₀ L sc tr tx up dp pl Dl I ws 0 a st) (done : ∀ a s₁, LX w s h₀ L sc tr tx up dp pl Dl I ws ws.length a s₁ → Q .next s₁) (hE : PassesOwn (model prg w) ⟨none, d, some [lawE w L fa cd], gd, u⟩ (lawE w L fa cd) E) :
    ForAt prg w ⟨none, d, some [lawE w L fa cd], gd, u⟩ E (lawE w L fa cd) (Str.ofString "number") px (lawB w) Q (.ref Dl) st := by
  obtain ⟨p1, p2, p3, p4, p5, p6, p7, p8⟩ := id O
  have isl : ∀ i a s', LX w s h₀ L sc tr tx up dp pl Dl I ws i a s' → s'.heap.IsList Dl ws.toArray := by
    rintro i a s' ⟨h, tk, gs, told, its, cO, to, vs, cH, ha, here, n, T, U, D, tv, uv, dv, o, kvs, cT, cU, cD, o1, o2, o3, o4, ps, tn, a3, a5, a6, rfl, hb, F, N, r⟩
    exact ⟨_, (N _ (.head _)).1, rfl, _, rfl⟩
  refine for_at hI rfl (isl _ _ _ lx0) (fun i s' => ∃ a, LX w s h₀ L sc tr tx up dp pl Dl I ws i a s') ?fr (fun i s' x => isl _ _ _ x.choose_spec) ⟨a, lx0⟩ ?turn ?dn hE
  case fr =>
    rintro i s' h' tk ⟨a, x⟩ kk
    exact ⟨a, x.frame O qI kk⟩
  case dn =>
    rintro s₁ ⟨a, x⟩
    exact done a s₁ (by simpa using x)
  case turn =>
    rintro i x s₁ oI hx ⟨a, lx⟩ hoI
    have hi : i < ws.length := by
      have := (Array.getElem?_eq_some_iff.mp hx).1
      simpa using this
    obtain ⟨num, t, rfl⟩ : ∃ num t, x = .int num t := by
      simp only [List.getElem?_toArray] at hx
      obtain ⟨z, hz⟩ : ∃ z, ns[i]? = some z := ⟨_, List.getElem?_eq_getElem (by rw [← hw.length]; exact hi)⟩
      obtain ⟨t, ht⟩ := hw.get i z hz
      rw [ht] at hx
      exact ⟨z, t, (Option.some.inj hx).symm⟩
    obtain ⟨h, tk, gs, told, its, cO, to, vs, cH, ha, here, n, T, U, D, tv, uv, dv, o, kvs, cT, cU, cD, o1, o2, o3, o4, ps, tn, a3, a5, a6, rfl, hb, F, N, C, lf, la, zz⟩ := lx
    have N0 : News h₀ L h ((I, oI) :: LN L tr tx up dp pl Dl ha to ws vs its tv uv dv cH cO cT cU cD o o1 o2 o3 o4 ps tn) := List.forall_mem_cons.mpr ⟨⟨hoI, Ne.symm O.lp.tr.1, qI⟩, N⟩
    unfold LN at N0
    clear N
    generalize hB : lawB w = bB
    unfold lawE lawSc scS
    show wpAny _ _ _ _ _ _
    k_steps
    with_reducible rename Fr _ _ _ _ => F1
    with_reducible rename News _ _ _ _ => N1
    subst hB
    exact law_t (s := s) X TT hroom hu O qI (by omega) hb (set_number F1 rfl) N1 C lf la zz Cd
end
end Mine
namespace Mine
theorem resetNd : True := by
  k_with_none
  w_top off
  trivial
section
variable {w : World} {s : Shared} {mg mb : Str → Option Value} {mean : ExcName → Option Value} {d u : Nat} {gd : Option (List Code)} {E : Value → Shared → Prop} {Q : Flow → Shared → Prop} {L fa : Addr} {cd : Value} {h₀ : Heap}
variable {h : Heap} {tk : Nat} {gs : Array GenState} {told : List (Nat × Nat)} {its : List Value} {cO : Nat} {to : Addr} {vs : List Value} {cH : Nat} {ha : Addr} {here n : Nat} {T : Nat → Str} {U D : Nat → Nat} {tv uv dv : List Value} {o : Obj} {kvs : List (Str × Value)} {cT cU cD : Nat} {o1 o2 o3 o4 oI : Obj} {ps : Array Value} {tn : List (Addr × Obj)} {a3 a4 a5 a6 : Option Value}
variable {sc tr tx up dp pl Dl I : Addr} {ws : List Value} {k : Nat} {num : Int} {tr5 : Tok}
local macro_rules | `(tactic| walk_at "exec For Name BinOp cons nil") => rul none `for_open "_" 0 'n'
theorem LF.start {t t1 t2 : Tok} (hd : o.IsDictOf (PySem.strKind prg w) []) : LF w 0 1 0 (fun _ => Str.ofString "") (fun _ => 0) (fun _ => 0) [.str (Str.ofString "") t] [.int ((0 : Nat) : Int) t1] [.int ((0 : Nat) : Int) t2] o [] [] [] [] [] #[] where
  tS := ⟨rfl, fun i hi => by obtain rfl : i = 0 := by omega
                             exact ⟨t, rfl⟩⟩
  tU := ⟨rfl, fun i hi => by obtain rfl : i = 0 := by omega
                             exact ⟨t1, rfl⟩⟩
  tD := ⟨rfl, fun i hi => by obtain rfl : i = 0 := by omega
                             exact ⟨t2, rfl⟩⟩
  hd := hd
  pl := ⟨fun i h0 hi => absurd h0 (by omega), fun x v e => by simp [valueAt] at e, Nat.zero_le _⟩
  tr := ⟨by omega, ⟨by decide +kernel, rfl, rfl⟩, fun i h0 hi => absurd h0 (by omega), fun i j hi hj _ => by omega⟩
  six := fun i hi => Nat.zero_le _
  hn := by omega
  nk := by omega
  tup := ⟨rfl, fun j p q e => by simp at e⟩
  bd := fun x hx => nomatch hx
  tl := Nat.zero_le _
  hv := .nil
  tab := .inl rfl
theorem law_a {vs : List Value} {ns : List Int} (X : (hd.heap_1 w.params).In h₀) (TT : Top topProg lg mean mg mb h₀) (hroom : d ≤ 360) (hu : u ≤ 1500) (Cd : CodeHd h₀ 180 178)
    (F : Fr h₀ L h (mmL sc none none none none none none)) (N : News h₀ L h [(L + 4, o4), (L + 3, o3), (L + 2, o2), (L + 1, o1), (178, tabObj #[])]) (h178 : @LT.lt Nat _ 178 L) (c1 : o1.data = .cell none) (c2 : o2.data = .cell none) (c3 : o3.data = .cell none) (c4 : o4.data = .cell none)
    (hl : h₀.IsList sc vs.toArray) (hI : IntsAre vs ns) (hn : ns.length ≤ 63) (hb : AllBare gs)
    (hE : PassesOwn (model prg w) ⟨none, d, some [lawE w L fa cd], gd, u⟩ (lawE w L fa cd) E)
    (hret : ∀ h' tk' gs' ps, AllBare gs' → Kp h₀ h' → h'.get? 178 = some (tabObj ps) → Q (.ret (.bool true)) { s with heap := h', toks := tk', gens := gs' }) :
    wpAny (model prg w) ⟨none, d, some [lawE w L fa cd], gd, u⟩ (execs (law0 w) (lawE w L fa cd)) Q E { s with heap := h, toks := tk, gens := gs } := by
  generalize tk = tk0
  unfold lawE lawSc scS law0 idS
  k_steps
  with_reducible rename Fr _ _ _ _ => kF
  with_reducible rename News _ _ _ _ => kN
  rename_i tx h1 l1a up h2 l1b dp h3 l1c pl h4 o lo hs fs hi fi l1d tr h5 l1e h6 o1' d1 tkA to h7 l1f h8 tkB ha h9 l1g h10 h11 o2' d2 D1 ws1 h12 hI1 hC hL l1h l h13 l1i Dl ws hh hIw l1j
  have lI : @LT.lt Nat _ Dl hh.objs.size := Heap.lt_size (kN (Dl, _) (by k_mem)).1
  refine law_for (s := s) (a := none) (ns := List.take 32 ns ++ [1, 33, 1, 3, 0, 19, 5, 5, 6, 5, 7, 5]) (ws := ws) (sc := sc) (tx := tx) (up := up) (dp := dp) (pl := pl) (tr := tr) (I := hh.objs.size) (h₀ := h₀) X TT hroom hu ⟨h178, l1a.1, l1b.1, l1c.1, l1d.1, l1e.1, l1j.2.2.2.2.1, lI⟩ ?qI Cd rfl hIw ?hws ?lx0 ?done hE
  case qI => exact get_above (Nat.le_trans kF.above (Nat.le_of_lt kF.ns.lt))
  case hws =>
    rw [hIw.length, List.length_append]
    show _ + 12 ≤ 44
    omega
  case lx0 =>
    refine ⟨hh, _, gs, [], [], 0, to, [], 0, ha, 0, 1, fun _ => Str.ofString "", fun _ => 0, fun _ => 0, [.str (Str.ofString "") tk0], [.int ((0 : Nat) : Int) (tk0 + 1)], [.int ((0 : Nat) : Int) (tk0 + 1 + 1)], o, [], 0, 0, 0, o1', o2', o3, o4, #[], [], none, none, none, rfl, hb, set_have kF mmL_told, ?_, ⟨d1, ⟨_, d2⟩, ⟨_, c3⟩, _, c4⟩, LF.start hs, (fun q hq => nomatch hq), l1f.1, l1g.2.1, Nat.ne_of_lt (Nat.lt_trans l1j.2.2.2.1 lI), Nat.ne_of_lt (Nat.lt_trans l1j.2.2.1 lI)⟩
    exact news13_of (kN _ (by k_mem)) (kN (ha, _) (by k_mem)) (kN (to, _) (by k_mem)) (kN (tr, _) (by k_mem)) (kN (pl, _) (by k_mem)) (kN (dp, _) (by k_mem)) (kN (up, _) (by k_mem)) (kN (tx, _) (by k_mem)) (kN (L + 4, _) (by k_mem)) (kN (L + 3, _) (by k_mem)) (kN (L + 2, _) (by k_mem)) (kN (L + 1, _) (by k_mem)) (kN (178, _) (by k_mem)) (fun q hq => nomatch hq)
  case done =>
    rintro a s₁ ⟨h', tk', gs', told, its, cO, to', vs', cH, ha', here, n, T, U, D, tv, uv, dv, o5, kvs, cT, cU, cD, p1, p2, p3, p4, ps, tn, a3, a5, a6, rfl, hb', F', N', C, lf, la, zz⟩
    clear kF kN
    show wpAny _ _ _ _ _ _
    k_steps
    exact hret _ _ _ _ hb' F'.keep (N' (178, tabObj ps) (by unfold LN; k_mem)).1
end
end Mine
namespace Mine
theorem resetNe : True := by
  k_with_none
  w_top off
  trivial
end Mine
open Mine
theorem PySem.Challenge.cw_in0095_01_holds : PySem.Challenge.rw_in0095_01.Holds := by
  apply hd
  intro w s₀ s₁ mg mb G Y fa o pm cd doc dV kV ho hd hcd hD hmg hg args vals as hpre hlay hrd hwl hlo
  have KX := km_in_of Y
  km_tabs Y
  have X := (Ground.X G).1
  have V := (Ground.X G).2
  refine Ground.open G ?_
  intro T B D TE TW
  try (refine guard_noD D (by decide +kernel) ?_; clear D)
  km_lay T hmg ho hd cd
  obtain ⟨_, _, M⟩ := bmod_of_top T
  have TA := at_of_top T
  try (obtain ⟨_, _, he, B0⟩ := based_of_top T rfl hmg ho hd; have he' : cd = _ := he; subst he'; clear he)
  clear hmg
  wrow_args hpre hlay hrd hwl hlo
  all_goals (first | refine callC_kw (enter_call ?_) | refine enter_call ?_ | refine callC_kw (enter_callW ?_) | refine enter_callW ?_ | w_how)
  w_top on
  have K0 := below_caller (Top.heap T)
  w_call any ho hd hcd hD T F
  clear hd TA
  k_drop
  with_reducible rename CellsAre _ _ _ => Y4
  obtain ⟨q4, q3, q2, q1, hE4, e4, e3, e2, e1⟩ := CellsAre.four Y4
  simp only [List.cons.injEq, Prod.mk.injEq, and_true, true_and] at hE4
  obtain ⟨rfl, rfl, rfl, rfl⟩ := hE4
  clear Y4
  with_reducible rename News _ _ _ _ => NN
  have lt178 : @LT.lt Nat _ 178 s₁.heap.objs.size := Heap.lt_size (hT8 178 (.head _))
  have NG := ghost_news hT9 F NN
  have FG := ghost_fr hT9 F
  have KG := ghost_K hT9 KX (by kernel_rfl)
  have TG := ghost_top hT9 T
  have CG := (ghost_code hT9).1
  with_reducible rename Heap => h₁
  with_reducible rename Heap.IsList _ _ _ => hL9
  with_reducible rename IntsAre _ _ => hI9
  (show wpAny (model prg w) ⟨none, 302, some [lawE w s₁.heap.objs.size fa _], some [], 7⟩ (execs (law0 w) (lawE w s₁.heap.objs.size fa _)) _ _ _)
  refine law_a (s := s₁) (L := s₁.heap.objs.size) (w := w) (mg := mg) (mb := mb) (fa := fa) (h₀ := ghostOf s₁.heap [(180, 178)]) KG TG ?r1 ?r2 CG ?F NG lt178 ?c1 ?c2 ?c3 ?c4 (ghost_list hT9 hL9) hI9 ?hn ?hb ?hE ?hret
  case r1 => decide
  case r2 => decide
  case hn => omega
  case c1 => refine Eq.trans e1 ?_; with_unfolding_all rfl
  case c2 => refine Eq.trans e2 ?_; with_unfolding_all rfl
  case c3 => refine Eq.trans e3 ?_; with_unfolding_all rfl
  case c4 => refine Eq.trans e4 ?_; with_unfolding_all rfl
  case hb => rw [hg]; intro y hy; simp at hy
  case F =>
    refine canonL FG ?_ ?_
    · refine List.forall_mem_cons.mpr ⟨?_, List.forall_mem_cons.mpr ⟨?_, List.forall_mem_cons.mpr ⟨?_, List.forall_mem_cons.mpr ⟨?_, List.forall_mem_cons.mpr ⟨?_, List.forall_mem_cons.mpr ⟨?_, List.forall_mem_cons.mpr ⟨?_, List.forall_mem_nil _⟩⟩⟩⟩⟩⟩⟩ <;> with_unfolding_all rfl
    · intro z z1 z2 z3 z4 z5 z6 z7
      exact Eq.trans (b := if z = Str.ofString "script" then some _ else none) (by with_unfolding_all rfl) (if_neg z7)
  case hE => first | passes_own | with_unfolding_all passes_own | exact PassesOwn.leaving | trace "PO"
  case hret =>
    intro h tk g ps hb7 k7 h178
    have kp : ∀ b o, b ≠ 178 → s₁.heap.get? b = some o → h.get? b = some o := fun b o hb e => k7 b o (ghost_ne e fun hm => hb (List.mem_singleton.mp hm))
    refine ⟨.inl ⟨_, _, _, rfl, fun cls => ?_, .bool true, ?_, fun _ => ⟨List.nodup_nil, fun a ha => nomatch ha⟩⟩, ⟨fun b o e => ?_, fun b o e => ?_⟩, rfl, hb7⟩
    · first | rfl | with_unfolding_all rfl | trace_state
    · first | rfl | with_unfolding_all rfl | decide | trace_state
    · by_cases hb : b = 178
      · subst hb
        rw [hT8 178 (.head _)] at e
        cases e
        exact .inr (.inl ⟨((hT9 _ (.head _)).1.tab (hT9 _ (.head _)).2).isCodeTable, rfl, #[], ps, rfl, by rw [Array.empty_append]; exact h178⟩)
      · exact .inl (kp b o hb e)
    · by_cases hb : b = 178
      · subst hb
        exact ⟨_, h178⟩
      · exact ⟨o, kp b o hb e⟩
