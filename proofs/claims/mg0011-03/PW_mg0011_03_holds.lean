import PyProof.Rows.All
import Wide.All
import OpenK.AllK
import Wide.FinOn
import Lean
import PySem.Challenge.RW_mg0011_03
set_option Elab.async false
set_option maxRecDepth 100000
set_option maxHeartbeats 8000000
section
open PySem PySem.W PyProof.Rows
open_top Mine.hd for PySem.Challenge.rw_mg0011_03
end
section
open PySem PySem.W PyProof.Rows PySem.Builtin PySem.Builtin.Str
namespace Mine
def sub1 (c : Nat) (z : List Nat) (l : List Nat) : List Nat := l.flatMap fun a => if a = c then z else [a]
theorem sub1_append (c z a b) : sub1 c z (a ++ b) = sub1 c z a ++ sub1 c z b := by simp [sub1]
theorem sub1_free (c z) : ∀ l : List Nat, c ∉ l → sub1 c z l = l
  | [], _ => rfl
  | k :: r, h => by
    have h1 : ¬ k = c := fun e => h (e ▸ List.mem_cons_self ..)
    have h2 : c ∉ r := fun m => h (List.mem_cons_of_mem _ m)
    have ih := sub1_free c z r h2
    simp only [sub1, List.flatMap_cons, if_neg h1] at ih ⊢
    rw [ih]; rfl
theorem sub1_join (c : Nat) (z : Str) : ∀ parts : List Str, (∀ p ∈ parts, c ∉ p.cps.toList) → sub1 c z.cps.toList (Str.join ⟨#[c]⟩ parts).cps.toList = (Str.join z parts).cps.toList
  | [], _ => rfl
  | [p], h => sub1_free c _ _ (h p (List.mem_singleton.mpr rfl))
  | p :: q :: r, h => by
    have ih := sub1_join c z (q :: r) fun a ha => h a (List.mem_cons_of_mem _ ha)
    show sub1 c z.cps.toList (p ++ ⟨#[c]⟩ ++ Str.join ⟨#[c]⟩ (q :: r)).cps.toList = (p ++ z ++ Str.join z (q :: r)).cps.toList
    simp only [Str.cps_append, Array.toList_append]
    rw [sub1_append, sub1_append, ih, sub1_free c _ _ (h p (List.mem_cons_self ..))]
    have : sub1 c z.cps.toList [c] = z.cps.toList := by simp [sub1]
    rw [this]
theorem replace_sub (x z : Str) (c : Nat) : (Txt.replace x ⟨#[c]⟩ z).cps.toList = sub1 c z.cps.toList x.cps.toList := by
  rw [StrLaws.replace_one, ← sub1_join c z _ (StrLaws.split_free x c), StrLaws.join_split]
theorem sub1_len (c z n) (hz : z.length ≤ n) (hn : 1 ≤ n) : ∀ l : List Nat, (sub1 c z l).length ≤ n * l.length
  | [] => by simp [sub1]
  | k :: r => by
    have ih := sub1_len c z n hz hn r
    simp only [sub1, List.flatMap_cons, List.length_append, List.length_cons] at ih ⊢
    have : (if k = c then z else [k]).length ≤ n := by split; exact hz; exact hn
    rw [Nat.mul_add]; omega
def tok (q : Bool) (a : Nat) : List Nat :=
  if a = 38 then [38, 97, 109, 112, 59] else if a = 60 then [38, 108, 116, 59] else if a = 62 then [38, 103, 116, 59]
  else if q = true ∧ a = 34 then [38, 113, 117, 111, 116, 59] else if q = true ∧ a = 39 then [38, 35, 120, 50, 55, 59] else [a]
def escL (q : Bool) (l : List Nat) : List Nat := l.flatMap (tok q)
def escS (v : Str) (q : Bool) : Str := ⟨(escL q v.cps.toList).toArray⟩
def chain3 (v : Str) : Str := Txt.replace (Txt.replace (Txt.replace v (Str.ofString "&") (Str.ofString "&amp;")) (Str.ofString "<") (Str.ofString "&lt;")) (Str.ofString ">") (Str.ofString "&gt;")
def chain5 (v : Str) : Str := Txt.replace (Txt.replace (chain3 v) (Str.ofString "\"") (Str.ofString "&quot;")) (Str.ofString "'") (Str.ofString "&#x27;")
theorem str_ext {a : Str} {l : List Nat} (e : a.cps.toList = l) : a = ⟨l.toArray⟩ := by
  obtain ⟨⟨x⟩⟩ := a
  simp only at e
  rw [e]
theorem flat_sub (c z) (f g : Nat → List Nat) (h : ∀ a, sub1 c z (f a) = g a) : ∀ l : List Nat, sub1 c z (l.flatMap f) = l.flatMap g
  | [] => rfl
  | k :: r => by rw [List.flatMap_cons, List.flatMap_cons, sub1_append, h, flat_sub c z f g h r]
theorem esc3 (v : Str) : chain3 v = escS v false := by
  have e : (chain3 v).cps.toList = escL false v.cps.toList := by
    show (Txt.replace (Txt.replace (Txt.replace v ⟨#[38]⟩ (Str.ofString "&amp;")) ⟨#[60]⟩ (Str.ofString "&lt;")) ⟨#[62]⟩ (Str.ofString "&gt;")).cps.toList = _
    rw [replace_sub, replace_sub, replace_sub]
    show sub1 62 [38, 103, 116, 59] (sub1 60 [38, 108, 116, 59] (sub1 38 [38, 97, 109, 112, 59] v.cps.toList)) = _
    rw [show sub1 38 [38, 97, 109, 112, 59] v.cps.toList = v.cps.toList.flatMap _ from rfl,
      flat_sub 60 _ _ (fun a => if a = 60 then [38, 108, 116, 59] else if a = 38 then [38, 97, 109, 112, 59] else [a]),
      flat_sub 62 _ _ (tok false)]
    · rfl
    · intro a; unfold tok; (repeat' split) <;> simp_all [sub1]
    · intro a; (repeat' split) <;> simp_all [sub1]
  exact str_ext e
theorem esc5 (v : Str) : chain5 v = escS v true := by
  have e : (chain5 v).cps.toList = escL true v.cps.toList := by
    show (Txt.replace (Txt.replace (chain3 v) ⟨#[34]⟩ (Str.ofString "&quot;")) ⟨#[39]⟩ (Str.ofString "&#x27;")).cps.toList = _
    rw [replace_sub, replace_sub, esc3]
    show sub1 39 [38, 35, 120, 50, 55, 59] (sub1 34 [38, 113, 117, 111, 116, 59] (v.cps.toList.flatMap (tok false))) = _
    rw [flat_sub 34 _ _ (fun a => if a = 34 then [38, 113, 117, 111, 116, 59] else tok false a),
      flat_sub 39 _ _ (tok true)]
    · rfl
    · intro a; unfold tok; (repeat' split) <;> simp_all [sub1]
    · intro a; unfold tok; (repeat' split) <;> simp_all [sub1]
  exact str_ext e
section
variable {prog : Program} {w : World} {A : Around} {E : Value → Shared → Prop} {s : Shared} {x y z : Str} {t u v : Tok} {Q : Value → Shared → Prop}
theorem rep {c N : Nat} (hu : u ≠ 0) (hv : v ≠ 0) (huv : u ≠ v) (hx : x.length ≤ N) (hyz : (y == z) = false) (hz : z.length ≤ 6) (hy : y = ⟨#[c]⟩) (hN : N + (N + 1) * 6 ≤ 16777216)
    (hq : ∀ t' k, s.toks ≤ k → (Txt.replace x y z).length ≤ 6 * N → Q (.str (Txt.replace x y z) t') { s with toks := k }) : wpAny (model prog w) A (call (.builtin "str.replace") [.str x t, .str y u, .str z v]) Q E s := by
  have hlen : (Txt.replace x y z).length ≤ 6 * N := by
    have h1 := sub1_len c z.cps.toList 6 hz (by omega) x.cps.toList
    rw [hy]
    have h2 := replace_sub x z c
    have h3 := congrArg List.length h2
    have h4 : x.cps.toList.length ≤ N := hx
    have : (Txt.replace x ⟨#[c]⟩ z).length = (Txt.replace x ⟨#[c]⟩ z).cps.toList.length := rfl
    omega
  have hb : x.length + (x.length + 1) * z.length ≤ 16777216 := by
    have := Nat.mul_le_mul (Nat.succ_le_succ hx) hz
    simp only [Nat.succ_eq_add_one] at this
    omega
  have hl : tooLong (x.length + (occurrences x y 0 x.length (x.length + 1)).length * z.length) = false := by
    have h1 := StrLaws.occ_length_le x y 0 x.length (x.length + 1)
    have h2 : (occurrences x y 0 x.length (x.length + 1)).length * z.length ≤ (x.length + 1) * z.length := Nat.mul_le_mul_right _ h1
    have e : (2 : Nat) ^ 24 = 16777216 := by decide
    unfold tooLong sizeLine
    exact decide_eq_false (by omega)
  refine call_gives F.slot_str_replace (typeIs_str _ _ _) F.entry_str_replace (F.args_str_replace_3 _ _ _)
    (gives_str_replace x y z t u v fun _ => ⟨by simp [hu, hv], by simp [huv], hyz, hl⟩) ?_
  have hq' := fun t' k hk => hq t' k hk hlen
  clear hq hlen
  unfold Txt.replace at hq'
  cases hc : ((occurrences x y 0 x.length (x.length + 1)).isEmpty || (y.length == 0 && z.length == 0))
  · rw [hc] at hq'
    simp only [Bool.false_eq_true, if_false] at hq' ⊢
    exact ⟨fits_replaced y hb, hq' _ _ (Nat.le_succ _)⟩
  · rw [hc] at hq'
    simp only [if_true] at hq' ⊢
    exact hq' t s.toks (Nat.le_refl _)
end
end Mine
end
section
open PySem PySem.W PyProof.Rows
namespace Mine
noncomputable abbrev PG := PySem.Challenge.rw_mg0011_03.row.prog
noncomputable abbrev KF (w : World) : Frag := Mine.hd.heap_39 w.params
noncomputable abbrev VW := Mine.hd.view_39
noncomputable abbrev LS := looseW Mine.hd.view_39 [Str.ofString "escape"]
abbrev Claim (k : Nat) (w : World) (mean : ExcName → Option Value) (mg mb : Str → Option Value) (f : Addr) (news : List (Addr × Obj)) (pre : Prop) (vs : List Value)
   (Ret : Heap → Heap → Addr → (Str → Option Value) → Shared → (Value → Shared → Prop) → Prop) : Prop :=
  ∀ (dp un : Nat) (gd : _) (cn : Str) (cs : Scope) (a : Addr) (ccd : Value) (cl : _) (outer : List Env) (A₀ : Around) (base h₀ : Heap) (L : Addr) (m : Str → Option Value) (s : Shared) (Q : Value → Shared → Prop) (E : Value → Shared → Prop),
    Below A₀ base outer h₀ → Fr h₀ L s.heap m → (KF w).In h₀ → News h₀ L s.heap news → Top VW LS mean mg mb h₀ → cs.kind = .function →
    pre → dp + k < recursionLimit → un + 8 * k < cLine → Ret base h₀ L m s Q →
      wpAny (model PG w) (ktrTop dp un gd cn cs L a ccd cl outer) (call (.ref f) vs) Q E s
local macro_rules | `(tactic| cell_enter) => `(tactic| (refine' code_def ?k1 ?k2 ?k3 ?k4 ?k5 ?kA ?kF ?kK ?k6 ?k7 ?k8 ?k9 ?kB ?_ ?c2 ?c3 ?c4 ?c5; (case kA => exact rfl); (case kF => exact rfl); (case kK => assumption); (case k1 => k_asm); (case k2 => k_asm); (case k3 => k_asm); (case k4 => k_asm); (case k5 => k_asm); (case k6 => k_is); (case k7 => k_is); (case k8 => ktr_room); (case k9 => first | exact BindsTo.of_eq rfl | exact binds_K (by k_in) rfl (by k_is) rfl rfl rfl); (case c5 => decide); (case kB => exact locs rfl); (case c2 => exact rfl); (case c3 => exact rfl); (case c4 => exact rfl); k_whole; intro g' L' h' FG' F' N' B' X' T'; (try dsimp only); (try k_lift B'); (try k_fold)))
local macro_rules | `(tactic| walk_at "execs cons") => `(tactic| ((with_reducible refine wpAny_execs_cons ?_); try dsimp only))
theorem escape_c {w mean mg mb news} (v : Str) (t : Tok) (q : Bool) : Claim 2 w mean mg mb 22 news (v.length ≤ 900) [.str v t, .bool q] (fun base h₀ L m s Q =>
     ∀ t h' tk', Fr h₀ L h' m → News h₀ L h' news → Q (.str (escS v q) t) {s with heap := h', toks := tk'}) := by
  dsimp only [Claim, PG, KF, VW, LS]; k_fill; intros; rename_i hret
  refine wpAny_call ?_
  k_dflt cell_enter
  cases q
  · iterate 11 (first | walk1 | (dsimp only; walk1))
    refine' rep ?k1 ?k2 ?k3 ?k4 ?k5 ?k6 ?k7 ?k8 ?_
    case k7 => exact rfl
    case k4 => assumption
    case k5 => decide
    case k6 => decide
    case k8 => omega
    case k1 => (try dsimp only); first | exact Nat.succ_ne_zero _ | omega | exact Nat.ne_of_gt (by omega)
    case k2 => (try dsimp only); first | exact Nat.succ_ne_zero _ | omega
    case k3 => (try dsimp only); first | exact Nat.ne_of_lt (Nat.lt_succ_self _) | omega
    intro t' k hk hl
    (try dsimp only at hk)
    (try dsimp only)
    iterate 12 (first | walk1 | (dsimp only; walk1))
    refine' rep ?k1 ?k2 ?k3 ?k4 ?k5 ?k6 ?k7 ?k8 ?_
    case k7 => exact rfl
    case k4 => assumption
    case k5 => decide
    case k6 => decide
    case k8 => omega
    case k1 => (try dsimp only); first | exact Nat.succ_ne_zero _ | omega | exact Nat.ne_of_gt (by omega)
    case k2 => (try dsimp only); first | exact Nat.succ_ne_zero _ | omega
    case k3 => (try dsimp only); first | exact Nat.ne_of_lt (Nat.lt_succ_self _) | omega
    intro t' k hk hl
    (try dsimp only at hk)
    (try dsimp only)
    iterate 12 (first | walk1 | (dsimp only; walk1))
    refine' rep ?k1 ?k2 ?k3 ?k4 ?k5 ?k6 ?k7 ?k8 ?_
    case k7 => exact rfl
    case k4 => assumption
    case k5 => decide
    case k6 => decide
    case k8 => omega
    case k1 => (try dsimp only); first | exact Nat.succ_ne_zero _ | omega | exact Nat.ne_of_gt (by omega)
    case k2 => (try dsimp only); first | exact Nat.succ_ne_zero _ | omega
    case k3 => (try dsimp only); first | exact Nat.ne_of_lt (Nat.lt_succ_self _) | omega
    intro t' k hk hl
    (try dsimp only at hk)
    (try dsimp only)
    k_steps
    rw [← esc3 v] at hret
    exact hret _ _ _ (by assumption) (by assumption)
  · iterate 11 (first | walk1 | (dsimp only; walk1))
    refine' rep ?k1 ?k2 ?k3 ?k4 ?k5 ?k6 ?k7 ?k8 ?_
    case k7 => exact rfl
    case k4 => assumption
    case k5 => decide
    case k6 => decide
    case k8 => omega
    case k1 => (try dsimp only); first | exact Nat.succ_ne_zero _ | omega | exact Nat.ne_of_gt (by omega)
    case k2 => (try dsimp only); first | exact Nat.succ_ne_zero _ | omega
    case k3 => (try dsimp only); first | exact Nat.ne_of_lt (Nat.lt_succ_self _) | omega
    intro t' k hk hl
    (try dsimp only at hk)
    (try dsimp only)
    iterate 12 (first | walk1 | (dsimp only; walk1))
    refine' rep ?k1 ?k2 ?k3 ?k4 ?k5 ?k6 ?k7 ?k8 ?_
    case k7 => exact rfl
    case k4 => assumption
    case k5 => decide
    case k6 => decide
    case k8 => omega
    case k1 => (try dsimp only); first | exact Nat.succ_ne_zero _ | omega | exact Nat.ne_of_gt (by omega)
    case k2 => (try dsimp only); first | exact Nat.succ_ne_zero _ | omega
    case k3 => (try dsimp only); first | exact Nat.ne_of_lt (Nat.lt_succ_self _) | omega
    intro t' k hk hl
    (try dsimp only at hk)
    (try dsimp only)
    iterate 12 (first | walk1 | (dsimp only; walk1))
    refine' rep ?k1 ?k2 ?k3 ?k4 ?k5 ?k6 ?k7 ?k8 ?_
    case k7 => exact rfl
    case k4 => assumption
    case k5 => decide
    case k6 => decide
    case k8 => omega
    case k1 => (try dsimp only); first | exact Nat.succ_ne_zero _ | omega | exact Nat.ne_of_gt (by omega)
    case k2 => (try dsimp only); first | exact Nat.succ_ne_zero _ | omega
    case k3 => (try dsimp only); first | exact Nat.ne_of_lt (Nat.lt_succ_self _) | omega
    intro t' k hk hl
    (try dsimp only at hk)
    (try dsimp only)
    iterate 18 (first | walk1 | (dsimp only; walk1))
    refine' rep ?k1 ?k2 ?k3 ?k4 ?k5 ?k6 ?k7 ?k8 ?_
    case k7 => exact rfl
    case k4 => assumption
    case k5 => decide
    case k6 => decide
    case k8 => omega
    case k1 => (try dsimp only); first | exact Nat.succ_ne_zero _ | omega | exact Nat.ne_of_gt (by omega)
    case k2 => (try dsimp only); first | exact Nat.succ_ne_zero _ | omega
    case k3 => (try dsimp only); first | exact Nat.ne_of_lt (Nat.lt_succ_self _) | omega
    intro t' k hk hl
    (try dsimp only at hk)
    (try dsimp only)
    iterate 12 (first | walk1 | (dsimp only; walk1))
    refine' rep ?k1 ?k2 ?k3 ?k4 ?k5 ?k6 ?k7 ?k8 ?_
    case k7 => exact rfl
    case k4 => assumption
    case k5 => decide
    case k6 => decide
    case k8 => omega
    case k1 => (try dsimp only); first | exact Nat.succ_ne_zero _ | omega | exact Nat.ne_of_gt (by omega)
    case k2 => (try dsimp only); first | exact Nat.succ_ne_zero _ | omega
    case k3 => (try dsimp only); first | exact Nat.ne_of_lt (Nat.lt_succ_self _) | omega
    intro t' k hk hl
    (try dsimp only at hk)
    (try dsimp only)
    k_steps
    rw [← esc5 v] at hret
    exact hret _ _ _ (by assumption) (by assumption)
end Mine
end
section
open PySem PySem.W PyProof.Rows PySem.Spec PySem.Calls PyProof.V
namespace Mine
theorem frN {h₀ h : Heap} {L : Addr} {m : Str → Option Value} {a : Str} {v : Value} (F : Fr h₀ L h m) (e : m a = some v) : Fr h₀ L h (fun y => if y = a then some v else m y) := by
  have : m = fun y => if y = a then some v else m y := funext fun y => by
    by_cases hy : y = a
    · rw [if_pos hy, hy, e]
    · rw [if_neg hy]
  rw [← this]; exact F
theorem forV {prog : Program} {w : World} {A : Around} {s : Shared} {env : Env} {E : Value → Shared → Prop} {Q : Flow → Shared → Prop} {x : Str} {px pos : Pos} {iter : Expr} {body : List Stmt} {h₀ : Heap} {m : Str → Option Value} (_F : Fr h₀ env.locals s.heap m) (hx : env.kindOf x = some .local)
    (hp : (env.scope.kind == .class || (env.scope.kind == .module && env.locals != env.globals)) = false)
    (hE : PassesOwn (model prog w) A env E)
    (hs : ∀ x, foldedSetIterable iter env x = pure x)
    (h : wpAny (model prog w) A (eval iter env) (fun xv s₁ => wpAny (model prog w) A (pyIter xv) (fun it s₂ => LoopAtV prog w A h₀ env x body Q E it s₂) E s₁) E s) :
    wpAny (model prog w) A (exec (.For (.Name x px) iter body [] pos) env) Q E s := For_invV h₀ hx hp h hs hE
def Hold (p : Prop) : Prop := p
theorem hold {p : Prop} (h : p) : Hold p := h
theorem unhold {p : Prop} (h : Hold p) : p := h
def TP (h₀ : Heap) (L I : Addr) (own : List (Addr × Obj)) (Jn : (Str → Option Value) → List (Addr × Obj) → Prop) (s₁ : Shared) (Q : Flow → Shared → Prop) (f : Flow) (s₂ : Shared) : Prop :=
  match f with
  | .ret v => Q (.ret v) s₂
  | .brk => Q .next s₂
  | _ => ∃ h' tk m' news', s₂ = { s₁ with heap := h', toks := tk } ∧ Fr h₀ L h' m' ∧ News h₀ L h' (news' ++ own) ∧ (∀ p ∈ news', p.1 ≠ I) ∧ Jn m' news'
section
variable {prog : Program} {w : World} {A : Around} {E : Value → Shared → Prop} {s : Shared} {env : Env} {h₀ : Heap} {x : Str} {body : List Stmt} {Q : Flow → Shared → Prop}
theorem news_swap {h₀ h : Heap} {L : Addr} {a b : List (Addr × Obj)} (N : News h₀ L h (a ++ b)) : News h₀ L h (b ++ a) :=
  fun p hp => N p (by simp only [List.mem_append] at hp ⊢; exact hp.symm)
theorem iterL {l : Addr} {vs : List Value} {m₀ : Str → Option Value} {news : List (Addr × Obj)} (J : Nat → (Str → Option Value) → List (Addr × Obj) → Prop)
    (hh : A.handled = none) (hls : s.heap.IsList l vs.toArray) (hlL : l ≠ env.locals) (F : Fr h₀ env.locals s.heap m₀) (N : News h₀ env.locals s.heap news) (hj : J 0 m₀ news)
    (turn : ∀ i v m₁ news₁ h tk own I, vs[i]? = some v → J i m₁ news₁ → (∀ p ∈ news₁, p.1 ≠ I) → (∀ p ∈ own, p.1 = I ∨ p.1 = l) → (∀ o, h.get? I = some o → (I, o) ∈ own) →
      Fr h₀ env.locals h (fun y => if y = x then some v else m₁ y) → News h₀ env.locals h (news₁ ++ own) →
      wpAny (model prog w) A (execs body env) (TP h₀ env.locals I own (J (i + 1)) { s with heap := h, toks := tk } Q) E { s with heap := h, toks := tk })
    (done : ∀ m₁ news₁ h tk, J vs.length m₁ news₁ → Fr h₀ env.locals h m₁ → News h₀ env.locals h news₁ → Q .next { s with heap := h, toks := tk }) :
    wpAny (model prog w) A (pyIter (.ref l)) (fun it s₂ => LoopAtV prog w A h₀ env x body Q E it s₂) E s := by
  obtain ⟨ol, hol, _⟩ := id hls
  have hne : l ≠ s.heap.objs.size := Nat.ne_of_lt (Heap.lt_size hol)
  refine wpAny_pyIter_list hls ?_
  have W := Walks.list (prog := prog) (w := w) hh s.heap.objs.size l hne vs.toArray
  have hlen : vs.toArray.size = vs.length := by simp
  rw [hlen] at W
  refine ⟨_, _, _, vs.length, _, _, m₀, news, J, rfl, W, ?_, ?_, ?_, ⟨⟨_, Heap.get?_push_size _ rfl, rfl, rfl⟩, hls.at fun o e => Heap.get?_push_of_some _ e⟩, F.push _, (fun p hp => ⟨Heap.get?_push_of_some _ (N p hp).1, (N p hp).2⟩), hj, ?_, ?_⟩
  · intro hm
    rcases List.mem_cons.mp hm with e | hm
    · exact absurd F.ns.lt (e ▸ Nat.lt_irrefl _)
    · exact hlL (List.mem_singleton.mp hm).symm
  · intro b hb
    rw [List.mem_singleton.mp hb]
    exact next_is_new F
  · intro p hp hI
    exact absurd (Heap.lt_size (N p hp).1) ((List.mem_singleton.mp hI) ▸ Nat.lt_irrefl _)
  · rintro i v m₁ news₁ s₁ own ⟨hh', tk', rfl⟩ hin hP hJ hoff hfp hat hall hst F₁ N₁
    have hP' : vs[i]? = some v := by simpa using hP
    refine wpAny_mono (turn i v m₁ news₁ hh' tk' own s.heap.objs.size hP' hJ (fun p hp e => hoff p hp (List.mem_singleton.mpr e)) (fun p hp => ?_) (fun o ho => hall _ (List.mem_cons_self ..) (next_is_new F) o ho) F₁ (news_swap N₁)) (fun f s₂ p => ?_) fun _ _ e => e
    · have := hfp p hp
      simpa using this
    · have fin : (∃ h' tk m' news', s₂ = { ({ s with heap := hh', toks := tk' } : Shared) with heap := h', toks := tk } ∧ Fr h₀ env.locals h' m' ∧ News h₀ env.locals h' (news' ++ own) ∧ (∀ p ∈ news', p.1 ≠ s.heap.objs.size) ∧ J (i + 1) m' news') →
          LoopStepU h₀ env.locals [s.heap.objs.size] own (J (i + 1)) { s with heap := hh', toks := tk' } .next s₂ := by
        rintro ⟨h', tk, m', news', e, F', N', hn, hm⟩
        exact ⟨rfl, h', tk, m', news', e, F', news_swap N', fun p hp hI => hn p hp (List.mem_singleton.mp hI), hm⟩
      cases f with
      | ret v => exact .ret p
      | brk => exact .brk p
      | next => exact .next (fin p)
      | cont => exact .cont (fin p)
  · rintro h' tk m' news' F' N' _ hJ
    exact done m' news' h' tk hJ F' N'
end
end Mine
end
section
open PySem PySem.W PyProof.Rows
namespace Mine
def lst (vs : List Value) (n : Nat) : Obj := W.listOf vs.toArray n
def bls (fs : List Bool) : List Value := fs.map Value.bool
def wr (v : Str) (fs : List Bool) : Str := fs.foldl escS v
def pileS (v : Str) (fs : List Bool) (i : Nat) : List Str := (List.range (i + 1)).map fun k => wr v (fs.take k)
theorem isListN {h₀ h : Heap} {L l : Addr} {news : List (Addr × Obj)} {a : Array Value} {n : Nat} (N : News h₀ L h news) (hm : (l, W.listOf a n) ∈ news) : h.IsList l a := ⟨_, (N _ hm).1, rfl, n, rfl⟩
theorem strs_get : ∀ {vs : List Value} {ys : List Str} {i : Nat} {y : Str}, StrsAre vs ys → ys[i]? = some y → ∃ t, vs[i]? = some (.str y t)
  | _, _, i, y, .nil, h => by simp at h
  | _, _, 0, y, .cons z t r, h => by simp at h; subst h; exact ⟨t, rfl⟩
  | _, _, i + 1, y, .cons z t r, h => by simpa using strs_get r (by simpa using h)
theorem strs_len : ∀ {vs : List Value} {ys : List Str}, StrsAre vs ys → vs.length = ys.length
  | _, _, .nil => rfl
  | _, _, .cons z t r => by simp [strs_len r]
theorem strs_push : ∀ {vs : List Value} {ys : List Str} (y : Str) (t : Tok), StrsAre vs ys → StrsAre (vs ++ [.str y t]) (ys ++ [y])
  | _, _, y, t, .nil => .cons y t .nil
  | _, _, y, t, .cons z u r => .cons z u (strs_push y t r)
theorem last_item {prog : Program} {w : World} {A : Around} {E : Value → Shared → Prop} {s : Shared} {value slice : PySem.Expr} {l : Addr} {vs : List Value} {u : Tok} {v : Value} {Q : Value → Shared → Prop}
    (hl : s.heap.IsList l vs.toArray) (hx : vs[vs.length - 1]? = some v) (h : Q v s)
    (hs : subscripted slice false (.ref l) (.int (-1) u) = operate [.ref l, .int (-1) u] (getItem (.ref l) (.int (-1) u)) := by with_unfolding_all rfl) :
    wpAny (model prog w) A (subscriptTail value slice (.ref l) (.int (-1) u)) Q E s := by
  have hp : 0 < vs.length := by
    cases vs with
    | nil => simp at hx
    | cons a b => simp
  refine tail_any hl.typeIs slot_list_getitem.lookup (wpAny_getItem_list_neg hl (by decide) (by simp; omega) (by decide) ?_ h) hs
  have : ((-1 : Int) + (vs.toArray.size : Int)).toNat = vs.length - 1 := by simp; omega
  rw [this]; simpa using hx
theorem pile_last (v : Str) (fs : List Bool) (i : Nat) : (pileS v fs i)[i]? = some (wr v (fs.take i)) := by simp [pileS]
theorem pile_next (v : Str) (fs : List Bool) (i : Nat) (b : Bool) (h : fs[i]? = some b) : pileS v fs (i + 1) = pileS v fs i ++ [escS (wr v (fs.take i)) b] := by
  have e : wr v (fs.take (i + 1)) = escS (wr v (fs.take i)) b := by
    rw [List.take_succ, h]; simp [wr]
  simp only [pileS]
  rw [List.range_succ (n := i + 1), List.map_append]
  simp [e]
theorem allLt_ne {d : Addr} : ∀ {l : List (Addr × Obj)}, AllLt d l → ∀ p ∈ l, p.1 ≠ d
  | [], _ => fun _ h => nomatch h
  | p :: r, h => fun q hq => by
    rcases List.mem_cons.mp hq with e | hq
    · subst e; exact Nat.ne_of_lt h.1
    · exact allLt_ne h.2 q hq
theorem tp_next {h₀ : Heap} {L I : Addr} {own : List (Addr × Obj)} {Jn : (Str → Option Value) → List (Addr × Obj) → Prop} {s₁ : Shared} {Q : Flow → Shared → Prop} {h' : Heap} {tk : Nat} {m' : Str → Option Value} {news' : List (Addr × Obj)}
    (F : Fr h₀ L h' m') (N : News h₀ L h' (news' ++ own)) (hn : ∀ p ∈ news', p.1 ≠ I) (hj : Jn m' news') : TP h₀ L I own Jn s₁ Q .next { s₁ with heap := h', toks := tk } := ⟨h', tk, m', news', rfl, F, N, hn, hj⟩
theorem bls_get {fs : List Bool} {i : Nat} {v : Value} (h : (bls fs)[i]? = some v) : ∃ b, fs[i]? = some b ∧ v = .bool b := by
  simp only [bls, List.getElem?_map] at h
  cases e : fs[i]? with
  | none => rw [e] at h; cases h
  | some b => rw [e] at h; exact ⟨b, rfl, (Option.some.inj h).symm⟩
local macro_rules | `(tactic| ktr_rel) => `(tactic| repeat' (first | (k_unfold; (try dsimp only)) | walk1 | (dsimp only; walk1) | (leave1; try dsimp only) | fail "no step"))
local macro_rules | `(tactic| walk_at "pyIter ref") => `(tactic| refine unhold ?_)
local macro_rules | `(tactic| walk_at "pyIter str") => `(tactic| refine unhold ?_)
local macro_rules | `(tactic| walk_at "exec For Name Call cons nil") => `(tactic| (k_here; (rename Fr _ _ _ _ => lF'); k_dflt (refine forV lF' (by rfl) (by rfl) (by passes_own) (by intro _; rfl) ?_)))
local macro_rules | `(tactic| walk_at "exec For Name Name cons nil") => `(tactic| (k_here; (rename Fr _ _ _ _ => lF'); k_dflt (refine forV lF' (by rfl) (by rfl) (by passes_own) (by intro _; rfl) ?_)))
theorem pile_c {w mean mg mb rest} (v : Str) (t : Tok) (lf : Addr) (fs : List Bool) (n : Nat) : Claim 4 w mean mg mb 55 ((lf, W.listOf (bls fs).toArray n) :: rest) ((∀ k, (wr v (fs.take k)).length ≤ 900) ∧ fs.length ≤ 1000) [.str v t, .ref lf] (fun base h₀ L m s Q =>
     ∀ l h' tk' vs n', StrsAre vs (pileS v fs fs.length) → Fr h₀ L h' m → News h₀ L h' ((l, W.listOf vs.toArray n') :: (lf, W.listOf (bls fs).toArray n) :: rest) → Q (.ref l) {s with heap := h', toks := tk'}) := by
  dsimp only [Claim, PG, KF, VW, LS]; k_fill; intros; rename_i hret
  rename (_ ∧ fs.length ≤ 1000) => hpre
  obtain ⟨hlen, hfs⟩ := hpre
  refine wpAny_call ?_
  k_dflt cell_enter
  ktr_rel
  refine hold ?_
  rename Fr _ _ _ _ => FP
  rename News _ _ _ _ => NP
  refine iterL (l := lf) (vs := bls fs) (J := fun i m news => ∃ lp vs n', StrsAre vs (pileS v fs i) ∧ m (Str.ofString "pile") = some (.ref lp) ∧ (∀ p ∈ (lf, W.listOf (bls fs).toArray n) :: rest, p.1 ≠ lp) ∧ news = (lp, W.listOf vs.toArray n') :: (lf, W.listOf (bls fs).toArray n) :: rest) rfl (isListN NP (List.Mem.tail _ (List.Mem.head _))) (NP _ (List.Mem.tail _ (List.Mem.head _))).2.1 FP NP ⟨_, _, _, .cons v t .nil, rfl, ?_, rfl⟩ ?_ ?_
  · rename (lf < _ ∧ AllLt _ _) => hlt
    exact allLt_ne hlt
  · clear FP NP
    rintro i _ m₁ _ h tk own I hv ⟨lp, vs, n', hvs, h1, h2, rfl⟩ hoff hown hI FP NP
    obtain ⟨b, hb, rfl⟩ := bls_get hv
    replace FP := frN FP (a := Str.ofString "pile") (v := .ref lp) (by rw [if_neg (by decide)]; exact h1)
    have hl := strs_len hvs
    have hpl : (pileS v fs i).length = i + 1 := by simp [pileS]
    obtain ⟨t', ht'⟩ := strs_get hvs (pile_last v fs i)
    k_steps
    have hX : (pileS v fs i).getD (-1 + ((pileS v fs i).length : Int)).toNat Str.empty = wr v (fs.take i) := by
      rw [hpl, show ((-1 : Int) + ((i + 1 : Nat) : Int)).toNat = i by omega, List.getD_eq_getElem?_getD, pile_last]; rfl
    rw [hX]
    refine' escape_c (mean := mean) (mg := mg) (mb := mb) _ _ _ _ _ _ _ _ _ _ _ _ _ _ _ _ _ _ _ _ ?k1 ?k2 ?k3 ?k4 ?k5 ?kK ?kp ?kd ?ku ?kR
    case k1 => k_asm
    case k2 => k_asm
    case k3 => k_asm
    case k4 => k_asm
    case k5 => k_asm
    case kK => exact rfl
    case kp => exact hlen i
    case kd => ktr_room
    case ku => ktr_units
    intro t9 h9 tk9 F9 N9
    clear FP NP
    try dsimp only
    k_steps
    have hU : Upd lp (W.listOf vs.toArray n') (W.listOf (vs.toArray.push (.str (escS (wr v (fs.take i)) b) t9)) (n' + 1)) ((lp, W.listOf vs.toArray n') :: ((lf, W.listOf (bls fs).toArray n) :: rest ++ own)) ((lp, W.listOf (vs.toArray.push (.str (escS (wr v (fs.take i)) b) t9)) (n' + 1)) :: ((lf, W.listOf (bls fs).toArray n) :: rest ++ own)) := by
      refine Upd.head fun p hp => ?_
      rcases List.mem_append.mp hp with hp | hp
      · exact h2 p hp
      · rcases hown p hp with e | e
        · rw [e]; exact fun e2 => hoff _ (List.Mem.head _) e2.symm
        · rw [e]; exact h2 _ (List.Mem.head _)
    have hsz : vs.toArray.size ≤ sizeLine := by
      have : i < fs.length := by
        rcases Nat.lt_or_ge i fs.length with h | h
        · exact h
        · rw [List.getElem?_eq_none h] at hb; cases hb
      show vs.length ≤ 2 ^ 24
      omega
    refine append_K F9 N9 hU ?_ hsz
    intro ha Fa Na
    clear F9 N9 hU
    rw [List.push_toArray] at Na
    refine wpAny_execs_nil ?_
    refine tp_next (news' := (lp, W.listOf (vs ++ [Value.str (escS (wr v (fs.take i)) b) t9]).toArray (n' + 1)) :: (lf, W.listOf (bls fs).toArray n) :: rest) Fa Na ?_ ⟨lp, _, _, ?_, if_pos rfl, h2, rfl⟩
    · intro p hp
      rcases List.mem_cons.mp hp with e | hp
      · subst e; exact hoff (lp, W.listOf vs.toArray n') (List.Mem.head _)
      · exact hoff p (List.Mem.tail _ hp)
    · rw [pile_next v fs i b hb]; exact strs_push _ _ hvs
  · clear FP NP
    rintro m₁ _ h tk ⟨lp, vs, n', hvs, h1, h2, rfl⟩ FP NP
    replace FP := frN FP (a := Str.ofString "pile") (v := .ref lp) h1
    try dsimp only
    k_steps
    rw [show (bls fs).length = fs.length by simp [bls]] at hvs
    exact hret _ _ _ _ _ hvs (by assumption) (by assumption)
end Mine
end
section
open PySem PySem.W PyProof.Rows
namespace Mine
def pcs : List Str := ["&", "<", ">", "\"", "'", "amp;", "lt;", "quot;", "#x27;", ";", "&amp;", "&quot;", "b"].map Str.ofString
def pieceS (n : Int) : Str := if n.fmod 14 < 13 then pcs.getD (n.fmod 14).toNat Str.empty else
  ⟨#[(if (n.fdiv 14).fmod 1112064 < 55296 then (n.fdiv 14).fmod 1112064 else (n.fdiv 14).fmod 1112064 + 2048).toNat]⟩
theorem pcs_len (j : Nat) : (pcs.getD j Str.empty).length ≤ 6 := by
  rcases Nat.lt_or_ge j 13 with h | h
  · have : ∀ j : Fin 13, (pcs.getD j.1 Str.empty).length ≤ 6 := by decide
    exact this ⟨j, h⟩
  · rw [List.getD_eq_getElem?_getD, List.getElem?_eq_none (show pcs.length ≤ j from h)]; decide
def textS (ns : List Int) : Str := ns.foldl (fun tx n => tx ++ pieceS n) Str.empty
theorem isTupN {h₀ h : Heap} {L l : Addr} {news : List (Addr × Obj)} {a : Array Value} {n : Nat} (N : News h₀ L h news) (hm : (l, seqObj "tuple" a n) ∈ news) : IsTup h l a := ⟨_, (N _ hm).1, rfl, n, rfl⟩
theorem pieceS_len (n : Int) : (pieceS n).length ≤ 6 := by
  unfold pieceS
  split
  · exact pcs_len _
  · show 1 ≤ 6
    decide
theorem textS_len (ns : List Int) : (textS ns).length ≤ 6 * ns.length := by
  have h : ∀ (ns : List Int) (tx : Str), (ns.foldl (fun tx n => tx ++ pieceS n) tx).length ≤ tx.length + 6 * ns.length := by
    intro ns
    induction ns with
    | nil => intro tx; simp
    | cons a r ih =>
      intro tx
      have h1 := ih (tx ++ pieceS a)
      have h2 : (tx ++ pieceS a).length = tx.length + (pieceS a).length := by show (tx.cps ++ (pieceS a).cps).size = _; rw [Array.size_append]; rfl
      have h3 := pieceS_len a
      rw [List.foldl_cons, List.length_cons]
      omega
  have := h ns Str.empty
  have e : Str.empty.length = 0 := rfl
  unfold textS
  omega
local macro_rules | `(tactic| ktr_rel) => `(tactic| repeat' (first | (k_unfold; (try dsimp only)) | walk1 | (dsimp only; walk1) | (leave1; try dsimp only) | fail "no step"))
local macro_rules | `(tactic| walk_at "pyIter ref") => `(tactic| refine unhold ?_)
local macro_rules | `(tactic| walk_at "pyIter str") => `(tactic| refine unhold ?_)
local macro_rules | `(tactic| walk_at "exec For Name Call cons nil") => `(tactic| (k_here; (rename Fr _ _ _ _ => lF'); k_dflt (refine forV lF' (by rfl) (by rfl) (by passes_own) (by intro _; rfl) ?_)))
local macro_rules | `(tactic| walk_at "exec For Name Name cons nil") => `(tactic| (k_here; (rename Fr _ _ _ _ => lF'); k_dflt (refine forV lF' (by rfl) (by rfl) (by passes_own) (by intro _; rfl) ?_)))
theorem text_c {w mean mg mb rest} (ln : Addr) (vs : List Value) (ns : List Int) (n : Nat) (hi : IntsAre vs ns) : Claim 2 w mean mg mb 29 ((ln, W.listOf vs.toArray n) :: rest) (ns.length ≤ 100) [.ref ln] (fun base h₀ L m s Q =>
     ∀ t h' tk', Fr h₀ L h' m → News h₀ L h' ((ln, W.listOf vs.toArray n) :: rest) → Q (.str (textS ns) t) {s with heap := h', toks := tk'}) := by
  dsimp only [Claim, PG, KF, VW, LS]; k_fill; intros; rename_i hret
  rename (ns.length ≤ 100) => hlen
  refine wpAny_call ?_
  k_dflt cell_enter
  ktr_rel
  refine hold ?_
  rename IntsAre _ _ => hi
  rename Fr _ _ _ _ => FP
  rename News _ _ _ _ => NP
  refine iterL (l := ln) (vs := vs) (J := fun i m news => ∃ lp tvs t, StrsAre tvs pcs ∧ m (Str.ofString "text") = some (.str (textS (ns.take i)) t) ∧ m (Str.ofString "pieces") = some (.ref lp) ∧ news = (lp, seqObj "tuple" tvs.toArray 0) :: (ln, W.listOf vs.toArray n) :: rest) rfl (isListN NP (List.Mem.tail _ (List.Mem.head _))) (NP _ (List.Mem.tail _ (List.Mem.head _))).2.1 FP NP ?_ ?_ ?_
  · refine ⟨_, _, _, ?_, rfl, rfl, rfl⟩
    repeat' constructor
  · clear FP NP
    rintro i _ m₁ _ h tk own I hv ⟨lp, tvs, t, htv, h1, h2, rfl⟩ hoff hown hI FP NP
    obtain ⟨k, hk⟩ : ∃ k, ns[i]? = some k := by
      have h3 := hi.length
      have h4 : i < vs.length := by
        rcases Nat.lt_or_ge i vs.length with h | h
        · exact h
        · rw [List.getElem?_eq_none h] at hv; cases hv
      exact ⟨ns[i]'(by omega), by simp⟩
    obtain ⟨u, hu⟩ := hi.get i k hk
    rw [hu] at hv
    cases hv
    replace FP := frN FP (a := Str.ofString "pieces") (v := .ref lp) (by rw [if_neg (by decide)]; exact h2)
    replace FP := frN FP (a := Str.ofString "text") (v := .str (textS (ns.take i)) t) (by rw [if_neg (by decide), if_neg (by decide)]; exact h1)
    have hL : (textS (ns.take i)).length ≤ 600 := by
      have := textS_len (ns.take i)
      have h5 : (ns.take i).length ≤ ns.length := by simp; omega
      omega
    have hnx : textS (ns.take (i + 1)) = textS (ns.take i) ++ pieceS k := by rw [List.take_succ, hk]; simp [textS]
    k_steps
    · refine' item_strsTu (ys := pcs) (l := tvs) ?k1 htv ?k2 ?k3 ?k4 ?_ ?k5 ?k6
      case k5 => with_unfolding_all rfl
      case k6 => intro _; with_unfolding_all rfl
      case k1 => exact isTupN NP (List.Mem.head _)
      case k2 => rw [Int.fmod_eq_emod_of_nonneg _ (by decide)]; omega
      case k3 => assumption
      case k4 => have := Int.fmod_lt_of_pos k (show (0 : Int) < 14 by decide); omega
      intro t2
      refine SB.iadd (fun t3 k3 => ?_) (by have := pcs_len (k.fmod 14).toNat; show _ ≤ 2 ^ 24; omega)
      try dsimp only
      k_steps
      refine' tp_next (news' := (lp, seqObj "tuple" tvs.toArray 0) :: (ln, W.listOf vs.toArray n) :: rest) (by assumption) (by assumption) hoff ⟨lp, tvs, _, htv, ?g1, ?g2, rfl⟩
      case g1 => rw [hnx, show pieceS k = pcs.getD (k.fmod 14).toNat Str.empty from if_pos (by assumption)]; exact rfl
      case g2 => exact rfl
    · refine' tp_next (news' := (lp, seqObj "tuple" tvs.toArray 0) :: (ln, W.listOf vs.toArray n) :: rest) (by assumption) (by assumption) hoff ⟨lp, tvs, _, htv, ?g1, ?g2, rfl⟩
      case g1 => rw [hnx, show pieceS k = ⟨#[((k.fdiv 14).fmod 1112064).toNat]⟩ from by unfold pieceS; rw [if_neg (by assumption), if_pos (by assumption)]]; exact rfl
      case g2 => exact rfl
    · refine' tp_next (news' := (lp, seqObj "tuple" tvs.toArray 0) :: (ln, W.listOf vs.toArray n) :: rest) (by assumption) (by assumption) hoff ⟨lp, tvs, _, htv, ?g1, ?g2, rfl⟩
      case g1 => rw [hnx, show pieceS k = ⟨#[((k.fdiv 14).fmod 1112064 + 2048).toNat]⟩ from by unfold pieceS; rw [if_neg (by assumption), if_neg (by assumption)]]; exact rfl
      case g2 => exact rfl
  · clear FP NP
    rintro m₁ _ h tk ⟨lp, tvs, t, htv, h1, h2, rfl⟩ FP NP
    rw [show ns.take vs.length = ns by rw [hi.length]; simp] at h1
    replace FP := frN FP (a := Str.ofString "text") (v := .str (textS ns) t) h1
    try dsimp only
    k_steps
    rename Fr _ _ _ _ => FP
    rename News _ _ _ _ => NP
    exact hret _ _ _ FP (fun p hp => NP p (List.Mem.tail _ hp))
end Mine
end
section
open PySem PySem.W PyProof.Rows
namespace Mine
def isB (k : Bool) : Value → Bool
  | .bool b => b == k
  | _ => false
theorem eq_isB (k : Bool) (fs : List Bool) (y : Value) (hy : y ∈ bls fs) : MeetsSeq.EqGives y (.bool k) (isB k y) := by
  obtain ⟨b, _, rfl⟩ := List.mem_map.mp hy
  exact fun prog w A E s Q h => SeqAt.EqAt.bool_bool b k prog w E Q h
theorem any_isB (k : Bool) (fs : List Bool) : (bls fs).any (isB k) = fs.any (· == k) := by
  induction fs with
  | nil => rfl
  | cons a r ih =>
    show (isB k (.bool a) || (bls r).any (isB k)) = _
    rw [ih]; rfl
section
variable {prog : Program} {w : World} {A : Around} {E : Value → Shared → Prop} {s : Shared}
theorem in_list_bools {l : Addr} {fs : List Bool} {k : Bool} {Q : Value → Shared → Prop} (hl : s.heap.IsList l (bls fs).toArray)
    (h : Q (.bool (fs.any (· == k))) s) : wpAny (model prog w) A (compareOp .In (.bool k) (.ref l)) Q E s :=
  SeqInW.in_listW (isB k) (fun y hy => eq_isB k fs y (by simpa using hy)) hl (by rw [← Array.any_toList, show (bls fs).toArray.toList = bls fs from rfl, any_isB]; exact h)
theorem notin_list_bools {l : Addr} {fs : List Bool} {k : Bool} {Q : Value → Shared → Prop} (hl : s.heap.IsList l (bls fs).toArray)
    (h : Q (.bool (!(fs.any (· == k)))) s) : wpAny (model prog w) A (compareOp .NotIn (.bool k) (.ref l)) Q E s :=
  SeqInW.notIn_listW (isB k) (fun y hy => eq_isB k fs y (by simpa using hy)) hl (by rw [← Array.any_toList, show (bls fs).toArray.toList = bls fs from rfl, any_isB]; exact h)
theorem isB_at (k : Bool) (fs : List Bool) (j : Nat) (h : j < (bls fs).length) (h' : j < fs.length) : isB k (bls fs)[j] = (fs[j] == k) := by
  simp [bls, isB]
theorem ne_before {k : Bool} : ∀ {fs : List Bool} {j : Nat} (_ : j < fs.idxOf k) (h : j < fs.length), (fs[j] == k) = false
  | a :: r, 0, h, _ => by
    rw [List.idxOf_cons] at h
    cases e : (a == k) with
    | true => rw [e] at h; simp at h
    | false => simpa using e
  | a :: r, j + 1, h, h2 => by
    rw [List.idxOf_cons] at h
    cases e : (a == k) with
    | true => rw [e] at h; simp at h
    | false =>
      rw [e] at h
      have h3 : j < r.idxOf k := by simpa using h
      simpa using ne_before (fs := r) h3 (by simpa using h2)
theorem index_list_bools {l : Addr} {fs : List Bool} {k : Bool} {Q : Value → Shared → Prop} (hl : s.heap.IsList l (bls fs).toArray)
    (hlen4 : fs.length ≤ 1000) (hk : k ∈ fs) (h : Q (.int (fs.idxOf k : Nat) s.toks) { s with toks := s.toks + 1 }) :
    wpAny (model prog w) A (call (.builtin "list.index") [.ref l, .bool k]) Q E s := by
  obtain ⟨⟨cls, dd, data, sl⟩, ho, hc, n, hd⟩ := id hl
  simp only at hc hd
  subst hc hd
  have hlen : (bls fs).length = fs.length := by simp [bls]
  have hj : fs.idxOf k < fs.length := List.idxOf_lt_length_iff.mpr hk
  refine call_meets PySem.F.slot_list_index ⟨_, ho, rfl⟩ PySem.F.entry_list_index (PySem.F.args_list_index_2 _ _)
    (SeqAt.list_indexAt l (bls fs).toArray n dd sl (.bool k) (isB k) (fs.idxOf k) (by simpa [hlen] using hj) (by omega) ?_ ?_) ⟨ho, fun y hy => (eq_isB k fs y (by simpa using hy)).at _ _, h⟩
  · show isB k (bls fs)[fs.idxOf k] = true
    rw [isB_at k fs _ (by omega) hj]
    simpa using List.getElem_idxOf hj
  · intro j hjs hlt
    show isB k (bls fs)[j] = false
    rw [isB_at k fs j (by simpa using hjs) (by omega)]
    exact ne_before hlt _
end
end Mine
end
section
open PySem PySem.W PyProof.Rows PySem.Spec PySem.Calls PyProof.V
namespace Mine
section
variable {prog : Program} {w : World} {A : Around} {E : Value → Shared → Prop} {s : Shared} {env : Env} {h₀ : Heap} {x : Str} {body : List Stmt} {Q : Flow → Shared → Prop}
theorem walkS (hh : A.handled = none) (x₀ : Str) (t : Tok) (I : Addr) (h : Heap) (ho : h.get? I = some { cls := .type (strIterType x₀), data := .fields #[.str x₀ t, .int 0 0] }) :
    ∃ St, Walks prog w A I [I] [I] x₀.cps.size (SignAt x₀) St ∧ St 0 h := by
  cases ha : x₀.cps.all (· < 128)
  · refine ⟨_, Walks.strWide hh I x₀ t, ⟨_, ho, by simp [strIterType, ha], rfl⟩⟩
  · refine ⟨_, Walks.strAscii hh I x₀ t, ⟨_, ho, by simp [strIterType, ha], rfl⟩⟩
theorem iterS {x₀ : Str} {t : Tok} {m₀ : Str → Option Value} {news : List (Addr × Obj)} (J : Nat → (Str → Option Value) → List (Addr × Obj) → Prop)
    (hh : A.handled = none) (F : Fr h₀ env.locals s.heap m₀) (N : News h₀ env.locals s.heap news) (hj : J 0 m₀ news)
    (turn : ∀ i c u m₁ news₁ h tk own I, x₀.cps[i]? = some c → J i m₁ news₁ → (∀ p ∈ news₁, p.1 ≠ I) → (∀ p ∈ own, p.1 = I) →
      Fr h₀ env.locals h (fun y => if y = x then some (.str ⟨#[c]⟩ u) else m₁ y) → News h₀ env.locals h (news₁ ++ own) →
      wpAny (model prog w) A (execs body env) (TP h₀ env.locals I own (J (i + 1)) { s with heap := h, toks := tk } Q) E { s with heap := h, toks := tk })
    (done : ∀ m₁ news₁ h tk, J x₀.cps.size m₁ news₁ → Fr h₀ env.locals h m₁ → News h₀ env.locals h news₁ → Q .next { s with heap := h, toks := tk }) :
    wpAny (model prog w) A (pyIter (.str x₀ t)) (fun it s₂ => LoopAtV prog w A h₀ env x body Q E it s₂) E s := by
  refine wpAny_pyIter_strU ?_
  obtain ⟨St, W, hst⟩ := walkS (prog := prog) (w := w) hh x₀ t s.heap.objs.size (s.heap.push { cls := .type (strIterType x₀), data := .fields #[.str x₀ t, .int 0 0] }) (Heap.get?_push_size _ rfl)
  refine ⟨_, _, _, x₀.cps.size, _, _, m₀, news, J, rfl, W, ?_, ?_, ?_, hst, F.push _, (fun p hp => ⟨Heap.get?_push_of_some _ (N p hp).1, (N p hp).2⟩), hj, ?_, ?_⟩
  · intro hm
    exact absurd F.ns.lt ((List.mem_singleton.mp hm) ▸ Nat.lt_irrefl _)
  · intro b hb
    rw [List.mem_singleton.mp hb]
    exact next_is_new F
  · intro p hp hI
    exact absurd (Heap.lt_size (N p hp).1) ((List.mem_singleton.mp hI) ▸ Nat.lt_irrefl _)
  · rintro i _ m₁ news₁ s₁ own ⟨hh', tk', rfl⟩ hin ⟨c, u, hc, rfl⟩ hJ hoff hfp hat hall hst F₁ N₁
    refine wpAny_mono (turn i c u m₁ news₁ hh' tk' own s.heap.objs.size hc hJ (fun p hp e => hoff p hp (List.mem_singleton.mpr e)) (fun p hp => List.mem_singleton.mp (hfp p hp)) F₁ (news_swap N₁)) (fun f s₂ p => ?_) fun _ _ e => e
    have fin : (∃ h' tk m' news', s₂ = { ({ s with heap := hh', toks := tk' } : Shared) with heap := h', toks := tk } ∧ Fr h₀ env.locals h' m' ∧ News h₀ env.locals h' (news' ++ own) ∧ (∀ p ∈ news', p.1 ≠ s.heap.objs.size) ∧ J (i + 1) m' news') →
          LoopStepU h₀ env.locals [s.heap.objs.size] own (J (i + 1)) { s with heap := hh', toks := tk' } .next s₂ := by
      rintro ⟨h', tk, m', news', e, F', N', hn, hm⟩
      exact ⟨rfl, h', tk, m', news', e, F', news_swap N', fun p hp hI => hn p hp (List.mem_singleton.mp hI), hm⟩
    cases f with
    | ret v => exact .ret p
    | brk => exact .brk p
    | next => exact .next (fin p)
    | cont => exact .cont (fin p)
  · rintro h' tk m' news' F' N' _ hJ
    exact done m' news' h' tk hJ F' N'
end
end Mine
end
section
open PySem PySem.W PyProof.Rows PyProof.Rows.LSm
namespace Mine
def lateN (fs : List Bool) : Nat := if true ∈ fs then fs.length - fs.idxOf true else 0
theorem bls_are : ∀ fs : List Bool, BoolsAre (bls fs) fs
  | [] => .nil
  | b :: r => .cons b (bls_are r)
def IntP (n : Nat) (s : Shared) (v : Value) (s' : Shared) : Prop := ∃ t tk, v = .int (n : Int) t ∧ s' = { s with toks := tk }
theorem intP {n : Nat} {s : Shared} {z : Int} {t : Tok} {tk : Nat} (e : z = n) : IntP n s (.int z t) { s with toks := tk } := ⟨t, tk, by rw [e], rfl⟩
theorem mid {prog : Program} {w : World} {A : Around} {E : Value → Shared → Prop} {s : Shared} {Q : Value → Shared → Prop} {c : Sem Value} (n : Nat)
    (h : wpAny (model prog w) A c (IntP n s) E s) (h2 : ∀ t tk, Q (.int (n : Int) t) { s with toks := tk }) : wpAny (model prog w) A c Q E s :=
  wpAny_mono h (fun v s' ⟨t, tk, e1, e2⟩ => by subst e1 e2; exact h2 t tk) fun _ _ e => e
theorem late_yes {fs : List Bool} (h : (fs.any fun x => x == true) = true) : (fs.length : Int) - (fs.idxOf true : Nat) = (lateN fs : Nat) := by
  have hm : true ∈ fs := by simpa using h
  have := List.idxOf_lt_length_iff.mpr hm
  unfold lateN; rw [if_pos hm]; omega
theorem late_no {fs : List Bool} (h : (fs.any fun x => x == true) = false) : (0 : Int) = (lateN fs : Nat) := by
  have hm : true ∉ fs := by simpa using h
  unfold lateN; rw [if_neg hm]; rfl
def nameL (c : Nat) : List Nat := if c = 38 then [97, 109, 112, 59] else if c = 60 then [108, 116, 59] else if c = 62 then [103, 116, 59] else if c = 34 then [113, 117, 111, 116, 59] else [35, 120, 50, 55, 59]
def isSp (c : Nat) : Bool := decide (c = 38 ∨ c = 60 ∨ c = 62 ∨ c = 34 ∨ c = 39)
def NamesAre (kvs : List (Str × Value)) : Prop := ∀ c, (isSp c = true → ∃ t, valueAt kvs ⟨#[c]⟩ = some (.str ⟨(nameL c).toArray⟩ t)) ∧ (isSp c = false → valueAt kvs ⟨#[c]⟩ = none)
theorem names_are (t1 t2 t3 t4 t5 t6 t7 t8 t9 t10 : Tok) : NamesAre (strPairs [(.str (Str.ofString "&") t1, .str (Str.ofString "amp;") t2), (.str (Str.ofString "<") t3, .str (Str.ofString "lt;") t4), (.str (Str.ofString ">") t5, .str (Str.ofString "gt;") t6), (.str (Str.ofString "\"") t7, .str (Str.ofString "quot;") t8), (.str (Str.ofString "'") t9, .str (Str.ofString "#x27;") t10)]) := by
  intro c
  constructor
  · intro h
    rcases of_decide_eq_true h with rfl | rfl | rfl | rfl | rfl <;> exact ⟨_, rfl⟩
  · intro h
    have h := of_decide_eq_false h
    have key : ∀ k : Nat, c ≠ k → decide ((⟨#[k]⟩ : Str) = ⟨#[c]⟩) = false := fun k hk => decide_eq_false fun e => hk (by simpa using e.symm)
    have e : ∀ (k : Nat) (v : Value) (r : List (Str × Value)), c ≠ k → valueAt ((⟨#[k]⟩, v) :: r) ⟨#[c]⟩ = valueAt r ⟨#[c]⟩ := fun k v r hk => by
      unfold valueAt; rw [List.find?_cons]; simp only [key k hk]
    show valueAt [((⟨#[38]⟩ : Str), (_ : Value)), (⟨#[60]⟩, _), (⟨#[62]⟩, _), (⟨#[34]⟩, _), (⟨#[39]⟩, _)] ⟨#[c]⟩ = none
    rw [e 38 _ _ (by omega), e 60 _ _ (by omega), e 62 _ _ (by omega), e 34 _ _ (by omega), e 39 _ _ (by omega)]
    rfl
def depthN (fs : List Bool) (c : Nat) : Nat := if c = 34 ∨ c = 39 then lateN fs else fs.length
def partL (fs : List Bool) (c : Nat) : List Nat := if isSp c = true ∧ 0 < depthN fs c then 38 :: ((List.replicate (depthN fs c - 1) [97, 109, 112, 59]).flatten ++ nameL c) else [c]
def partS (fs : List Bool) (c : Nat) : Str := ⟨(partL fs c).toArray⟩
theorem dep_yes {fs : List Bool} {c : Nat} (h : ([Str.ofString "\"", Str.ofString "'"].any fun x => x == { cps := #[c] }) = true) : (depthN fs c) = lateN fs := by
  have : c = 34 ∨ c = 39 := by
    have h : ((Str.mk #[34] == Str.mk #[c]) || ((Str.mk #[39] == Str.mk #[c]) || false)) = true := h
    simp at h
    omega
  unfold depthN; rw [if_pos this]
theorem dep_no {fs : List Bool} {c : Nat} (h : ([Str.ofString "\"", Str.ofString "'"].any fun x => x == { cps := #[c] }) = false) : (depthN fs c) = fs.length := by
  have : ¬ (c = 34 ∨ c = 39) := by
    have h : ((Str.mk #[34] == Str.mk #[c]) || ((Str.mk #[39] == Str.mk #[c]) || false)) = false := h
    simp at h
    omega
  unfold depthN; rw [if_neg this]
theorem sp_some {kvs : List (Str × Value)} (h : NamesAre kvs) (c : Nat) : (valueAt kvs ⟨#[c]⟩).isSome = isSp c := by
  cases e : isSp c with
  | true => obtain ⟨t, ht⟩ := (h c).1 e; rw [ht]; rfl
  | false => rw [(h c).2 e]; rfl
theorem late_le (fs : List Bool) : lateN fs ≤ fs.length := by unfold lateN; split <;> omega
theorem mul_flat (x : Str) (d : Nat) : (Txt.mul x (d : Int)).cps.toList = (List.replicate d x.cps.toList).flatten := by
  have hf : ∀ (k : Nat) (a : Array Nat), ((List.replicate k x.cps).foldl (· ++ ·) a).toList = a.toList ++ (List.replicate k x.cps.toList).flatten := by
    intro k
    induction k with
    | zero => intro a; simp
    | succ k ih => intro a; rw [List.replicate_succ, List.foldl_cons, ih]; simp [List.replicate_succ]
  unfold Txt.mul
  split
  · rename_i h
    have : d = 0 := by omega
    subst this; rfl
  · split
    · rename_i h1 h2
      simp only [Bool.or_eq_true, beq_iff_eq] at h2
      rcases h2 with h2 | h2
      · have : d = 1 := by omega
        subst this; simp
      · have : x.cps.toList = [] := by
          have h3 : x.cps.size = 0 := h2
          simpa using h3
        rw [this]
        induction d with
        | zero => rfl
        | succ k ih => simp
    · have := hf d #[]
      simpa using this
theorem part_yes {fs : List Bool} {c : Nat} (h : isSp c = true) (hd : (0 : Int) < (depthN fs c : Nat)) : Str.ofString "&" ++ Txt.mul (Str.ofString "amp;") ((depthN fs c : Nat) - 1) ++ (⟨(nameL c).toArray⟩ : Str) = partS fs c := by
  have e : ((depthN fs c : Nat) : Int) - 1 = ((depthN fs c - 1 : Nat) : Int) := by omega
  rw [e]
  refine str_ext (l := partL fs c) ?_
  rw [Str.cps_append, Str.cps_append, Array.toList_append, Array.toList_append, mul_flat]
  unfold partL
  rw [if_pos ⟨h, by omega⟩]
  rfl
theorem part_no {fs : List Bool} {c : Nat} (h : ¬ (isSp c = true ∧ 0 < depthN fs c)) : (⟨#[c]⟩ : Str) = partS fs c := by
  unfold partS partL
  rw [if_neg h]
theorem nameL_len (c : Nat) : (Str.mk (nameL c).toArray).length ≤ 5 := by
  show (nameL c).length ≤ 5
  unfold nameL
  repeat' split
  all_goals decide
theorem depth_le (fs : List Bool) (c : Nat) : depthN fs c ≤ fs.length := by
  unfold depthN
  split
  · exact late_le fs
  · exact Nat.le_refl _
theorem part_len (fs : List Bool) (c : Nat) (h : fs.length ≤ 4) : (partL fs c).length ≤ 18 := by
  have h1 := depth_le fs c
  have h2 : (nameL c).length ≤ 5 := nameL_len c
  unfold partL
  split
  · have e : (List.replicate (depthN fs c - 1) [97, 109, 112, 59]).flatten.length = (depthN fs c - 1) * 4 := by simp
    rw [List.length_cons, List.length_append, e]
    omega
  · simp
theorem parts_sum (fs : List Bool) (h : fs.length ≤ 4) : ∀ l : List Nat, ((l.map (partS fs)).map (·.length)).sum ≤ 18 * l.length
  | [] => Nat.le_refl _
  | c :: r => by
    have h1 := parts_sum fs h r
    have h2 : (partS fs c).length ≤ 18 := part_len fs c h
    simp only [List.map_cons, List.sum_cons, List.length_cons] at h1 ⊢
    omega
theorem parts_weight (fs : List Bool) (h : fs.length ≤ 4) (v : Str) (hv : v.length ≤ 900) : ((v.cps.toList.map (partS fs)).map (·.length)).sum + (v.cps.toList.map (partS fs)).length ≤ 1048576 := by
  have h1 := parts_sum fs h v.cps.toList
  have h2 : v.cps.toList.length ≤ 900 := hv
  rw [List.length_map]
  omega
theorem escL_app (q : Bool) (a b : List Nat) : escL q (a ++ b) = escL q a ++ escL q b := by simp [escL]
def wrL (l : List Nat) (fs : List Bool) : List Nat := fs.foldl (fun l q => escL q l) l
theorem wr_L : ∀ (fs : List Bool) (v : Str), (wr v fs).cps.toList = wrL v.cps.toList fs
  | [], v => rfl
  | q :: r, v => by
    show (wr (escS v q) r).cps.toList = wrL (escL q v.cps.toList) r
    rw [wr_L r]; rfl
theorem wrL_app : ∀ (fs : List Bool) (a b : List Nat), wrL (a ++ b) fs = wrL a fs ++ wrL b fs
  | [], _, _ => rfl
  | q :: r, a, b => by
    show wrL (escL q (a ++ b)) r = wrL (escL q a) r ++ wrL (escL q b) r
    rw [escL_app, wrL_app r]
theorem wrL_nil : ∀ fs : List Bool, wrL [] fs = []
  | [] => rfl
  | q :: r => wrL_nil r
theorem wrL_flat (fs : List Bool) : ∀ l : List Nat, wrL l fs = l.flatMap fun c => wrL [c] fs
  | [] => wrL_nil fs
  | c :: r => by rw [List.flatMap_cons, ← wrL_flat fs r, ← wrL_app]; rfl
theorem wrL_snoc (l : List Nat) (fs : List Bool) (q : Bool) : wrL l (fs ++ [q]) = escL q (wrL l fs) := by simp [wrL]
def partD (d c : Nat) : List Nat := if isSp c = true ∧ 0 < d then 38 :: ((List.replicate (d - 1) [97, 109, 112, 59]).flatten ++ nameL c) else [c]
def nextD (q : Bool) (c d : Nat) : Nat := if c = 34 ∨ c = 39 then (if 0 < d then d + 1 else if q = true then 1 else 0) else d + 1
theorem tok_plain (q : Bool) (c : Nat) (h : isSp c = false) : tok q c = [c] := by
  have h := of_decide_eq_false h
  have e : ∀ k, c ≠ k → (c = k) = False := fun k hk => eq_false hk
  unfold tok
  rw [if_neg (by omega), if_neg (by omega), if_neg (by omega), if_neg (by omega), if_neg (by omega)]
theorem escL_amps (q : Bool) : ∀ k : Nat, escL q (List.replicate k [97, 109, 112, 59]).flatten = (List.replicate k [97, 109, 112, 59]).flatten
  | 0 => rfl
  | k + 1 => by
    rw [List.replicate_succ, List.flatten_cons, escL_app, escL_amps q k]
    cases q <;> rfl
theorem escL_name (q : Bool) (c : Nat) : escL q (nameL c) = nameL c := by
  unfold nameL
  repeat' split
  all_goals (cases q <;> rfl)
theorem part_step (q : Bool) (c d : Nat) : escL q (partD d c) = partD (nextD q c d) c := by
  cases hs : isSp c with
  | false =>
    unfold partD
    rw [if_neg (by simp [hs]), if_neg (by simp [hs])]
    show tok q c ++ [] = [c]
    rw [tok_plain q c hs]; rfl
  | true =>
    rcases Nat.eq_zero_or_pos d with h0 | hp
    · subst h0
      have hs' := of_decide_eq_true hs
      rcases hs' with rfl | rfl | rfl | rfl | rfl <;> cases q <;> rfl
    · have e : nextD q c d = d + 1 := by unfold nextD; rw [if_pos hp]; split <;> rfl
      rw [e]
      unfold partD
      rw [if_pos ⟨hs, hp⟩, if_pos ⟨hs, Nat.succ_pos d⟩]
      show tok q 38 ++ escL q ((List.replicate (d - 1) [97, 109, 112, 59]).flatten ++ nameL c) = _
      rw [escL_app, escL_amps, escL_name, show d + 1 - 1 = d - 1 + 1 by omega, List.replicate_succ, List.flatten_cons]
      rfl
theorem late_snoc (fs : List Bool) (q : Bool) : lateN (fs ++ [q]) = if 0 < lateN fs then lateN fs + 1 else if q = true then 1 else 0 := by
  by_cases h : true ∈ fs
  · have h1 := List.idxOf_lt_length_iff.mpr h
    have h2 : true ∈ fs ++ [q] := List.mem_append_left _ h
    unfold lateN
    rw [if_pos h2, if_pos h, List.idxOf_append, if_pos h, if_pos (by omega)]
    simp
    omega
  · have e : lateN fs = 0 := by unfold lateN; rw [if_neg h]
    rw [e, if_neg (by omega)]
    cases q with
    | false =>
      unfold lateN
      rw [if_neg (by simpa using h)]
      rfl
    | true =>
      unfold lateN
      rw [if_pos (by simp), List.idxOf_append, if_neg h]
      simp
theorem depth_snoc (fs : List Bool) (q : Bool) (c : Nat) : depthN (fs ++ [q]) c = nextD q c (depthN fs c) := by
  unfold depthN nextD
  split
  · exact late_snoc fs q
  · simp
theorem part_one : ∀ (n : Nat) (fs : List Bool), fs.length = n → ∀ c, wrL [c] fs = partL fs c
  | 0, fs, h, c => by
    have : fs = [] := List.eq_nil_of_length_eq_zero h
    subst this
    unfold partL
    rw [if_neg (by rintro ⟨_, h2⟩; have := depth_le [] c; simp at this; omega)]
    rfl
  | n + 1, fs, h, c => by
    rcases List.eq_nil_or_concat fs with e | ⟨r, q, e⟩
    · subst e; simp at h
    · rw [List.concat_eq_append] at e
      subst e
      have hr : r.length = n := by simpa using h
      rw [wrL_snoc, part_one n r hr c]
      show escL q (partD (depthN r c) c) = partD (depthN (r ++ [q]) c) c
      rw [part_step, depth_snoc]
theorem wr_flat (v : Str) (fs : List Bool) : wr v fs = ⟨(v.cps.toList.flatMap (partL fs)).toArray⟩ := by
  refine str_ext ?_
  rw [wr_L, wrL_flat]
  congr 1
  funext c
  exact part_one _ fs rfl c
theorem join_flat : ∀ ys : List Str, (Str.join (Str.ofString "") ys).cps.toList = ys.flatMap fun y => y.cps.toList
  | [] => rfl
  | [y] => by simp [Str.join]
  | y :: z :: r => by
    have ih := join_flat (z :: r)
    show (y ++ Str.ofString "" ++ Str.join (Str.ofString "") (z :: r)).cps.toList = _
    rw [Str.cps_append, Str.cps_append, Array.toList_append, Array.toList_append, ih]
    show y.cps.toList ++ [] ++ _ = y.cps.toList ++ _
    rw [List.append_nil]
    rfl
theorem join_wr (v : Str) (fs : List Bool) : Txt.join (Str.ofString "") (v.cps.toList.map (partS fs)) = wr v fs := by
  rw [wr_flat]
  unfold Txt.join
  rw [StrLaws.glued_eq_join]
  refine str_ext ?_
  rw [join_flat, List.flatMap_map]
  rfl
end Mine
end
section
open PySem PySem.W PyProof.Rows PyProof.Rows.LSm
namespace Mine
local macro_rules | `(tactic| ktr_rel) => `(tactic| repeat' (first | (k_unfold; (try dsimp only)) | walk1 | (dsimp only; walk1) | (leave1; try dsimp only) | fail "no step"))
local macro_rules | `(tactic| walk_at "pyIter ref") => `(tactic| refine unhold ?_)
local macro_rules | `(tactic| walk_at "pyIter str") => `(tactic| refine unhold ?_)
local macro_rules | `(tactic| walk_at "exec For Name Call cons nil") => `(tactic| (k_here; (rename Fr _ _ _ _ => lF'); k_dflt (refine forV lF' (by rfl) (by rfl) (by passes_own) (by intro _; rfl) ?_)))
local macro_rules | `(tactic| walk_at "exec For Name Name cons nil") => `(tactic| (k_here; (rename Fr _ _ _ _ => lF'); k_dflt (refine forV lF' (by rfl) (by rfl) (by passes_own) (by intro _; rfl) ?_)))
local macro_rules | `(tactic| walk_at "execs cons") => `(tactic| ((with_reducible show wpAny _ _ (execs (PySem.Stmt.Assign [PySem.Expr.Name (PySem.Str.ofString "late") _] _ _ :: _) _) _ _ _); refine unhold ?_))
theorem written_c {w mean mg mb rest} (v : Str) (t : Tok) (lf : Addr) (fs : List Bool) (n : Nat) : Claim 4 w mean mg mb 48 ((lf, W.listOf (bls fs).toArray n) :: rest) (fs.length ≤ 4 ∧ v.length ≤ 900) [.str v t, .ref lf] (fun base h₀ L m s Q =>
     ∀ t' h' tk', Fr h₀ L h' m → News h₀ L h' ((lf, W.listOf (bls fs).toArray n) :: rest) → Q (.str (wr v fs) t') {s with heap := h', toks := tk'}) := by
  dsimp only [Claim, PG, KF, VW, LS]; k_fill; intros; rename_i hret
  rename (fs.length ≤ 4 ∧ _) => hpre
  obtain ⟨hfs, hv⟩ := hpre
  refine wpAny_call ?_
  k_dflt cell_enter
  have hB : BoolsAre (bls fs) fs := bls_are fs
  ktr_rel
  refine hold ?_
  refine wpAny_execs_cons ?_
  try dsimp only
  walk1
  rename News _ _ _ _ => NP
  rename Fr _ _ _ _ => FP
  refine mid (lateN fs) ?_ ?_
  · k_steps
    refine in_list_bools (isListN NP (List.Mem.tail _ (List.Mem.head _))) ?_
    k_steps
    · rename (_ = true) => hany
      refine index_list_bools (isListN NP (List.Mem.tail _ (List.Mem.head _))) (by omega) (by simpa using hany) ?_
      try dsimp only
      k_steps
      exact intP (late_yes hany)
    · rename (_ = false) => hany
      exact intP (late_no hany)
  · intro t1 tk1
    ktr_rel
    refine hold ?_
    rename Fr _ _ _ _ => FP
    rename News _ _ _ _ => NP
    rename (Obj.IsDictOf _ _ _) => hdict
    rename (_ < _ ∧ _ < _ ∧ AllLt _ _) => hlt
    rename ((_ == sysModules) = false) => hsys
    obtain ⟨kvs, hkvs, hD⟩ : ∃ kvs, NamesAre kvs ∧ Obj.IsDictOf (PySem.strKind Challenge.rw_mg0011_03.row.prog w) _ kvs := ⟨_, names_are _ _ _ _ _ _ _ _ _ _, hdict⟩
    clear hdict
    refine iterS (J := fun i m news => ∃ la dn vs n' tl od, StrsAre vs ((v.cps.toList.take i).map (partS fs)) ∧ (dn == sysModules) = false ∧ Obj.IsDictOf (PySem.strKind Challenge.rw_mg0011_03.row.prog w) od kvs ∧ m (Str.ofString "laid") = some (.ref la) ∧ m (Str.ofString "names") = some (.ref dn) ∧ m (Str.ofString "late") = some (.int (lateN fs : Nat) tl) ∧ m (Str.ofString "flags") = some (.ref lf) ∧ (∀ p ∈ (dn, od) :: (lf, W.listOf (bls fs).toArray n) :: rest, p.1 ≠ la) ∧ news = (la, W.listOf vs.toArray n') :: (dn, od) :: (lf, W.listOf (bls fs).toArray n) :: rest) rfl FP NP ⟨_, _, [], _, _, _, .nil, hsys, hD, rfl, rfl, rfl, rfl, allLt_ne hlt, rfl⟩ ?_ ?_
    · clear FP NP hlt hsys hD
      rintro i c u m₁ _ h tk own I hc ⟨la, dn, vs, n', tl, od, hvs, hsys, hD, h1, h2, h3, h4, h5, rfl⟩ hoff hown FP NP
      replace FP := frN FP (a := Str.ofString "laid") (v := .ref la) (by rw [if_neg (by decide)]; exact h1)
      replace FP := frN FP (a := Str.ofString "names") (v := .ref dn) (by rw [if_neg (by decide), if_neg (by decide)]; exact h2)
      replace FP := frN FP (a := Str.ofString "late") (v := .int (lateN fs : Nat) tl) (by rw [if_neg (by decide), if_neg (by decide), if_neg (by decide)]; exact h3)
      replace FP := frN FP (a := Str.ofString "flags") (v := .ref lf) (by rw [if_neg (by decide), if_neg (by decide), if_neg (by decide), if_neg (by decide)]; exact h4)
      k_steps
      all_goals
        first
          | (rename ((List.any _ _) = true) => hq; have hdp := dep_yes (fs := fs) hq)
          | (rename ((List.any _ _) = false) => hq; have hdp := dep_no (fs := fs) hq)
        rename Fr _ _ _ _ => F1
        rename News _ _ _ _ => N1
        replace F1 := frN F1 (a := Str.ofString "depth") (v := .int (depthN fs c : Nat) _) (by rw [hdp]; exact rfl)
        replace N1 : News _ _ _ ((la, W.listOf vs.toArray n') :: (dn, od) :: (lf, W.listOf (bls fs).toArray n) :: rest ++ own) := fun p hp => N1 p (List.Mem.tail _ hp)
        have hd4 : depthN fs c ≤ 4 := by rw [hdp]; first | exact Nat.le_trans (late_le fs) hfs | exact hfs
        refine kda_in N1 (List.Mem.tail _ (List.Mem.head _)) hD hsys (k := ⟨#[c]⟩) (by simp [PySem.strKind, Value.isStrOf]) (isSp c) (sp_some hkvs c) ?_
        k_steps
      all_goals
        have hnl := nameL_len c
        try
          rename (isSp c = true) => hsp
          rename ((0 : Int) < _) => hdpos
          obtain ⟨tn, htn⟩ := (hkvs c).1 hsp
          refine kda_item N1 (List.Mem.tail _ (List.Mem.head _)) hD (k := ⟨#[c]⟩) (by simp [PySem.strKind, Value.isStrOf]) htn ?_
          k_steps
        have hil : i < v.cps.toList.length := by
          rcases Nat.lt_or_ge i v.cps.size with h | h
          · exact h
          · rw [Array.getElem?_eq_none h] at hc; cases hc
        have htk : (v.cps.toList.take (i + 1)).map (partS fs) = (v.cps.toList.take i).map (partS fs) ++ [partS fs c] := by
          rw [List.take_add_one, show v.cps.toList[i]? = some c by simpa using hc]; simp
        have hll := strs_len hvs
        have hsz : vs.toArray.size ≤ sizeLine := by
          show vs.length ≤ 2 ^ 24
          have h9 : v.cps.toList.length ≤ 900 := hv
          rw [List.length_map, List.length_take] at hll
          omega
        have hU : ∀ o', Upd la (W.listOf vs.toArray n') o' ((la, W.listOf vs.toArray n') :: ((dn, od) :: (lf, W.listOf (bls fs).toArray n) :: rest ++ own)) ((la, o') :: ((dn, od) :: (lf, W.listOf (bls fs).toArray n) :: rest ++ own)) := fun o' => by
          refine Upd.head fun p hp => ?_
          rcases List.mem_append.mp hp with hp | hp
          · exact h5 p hp
          · rw [hown p hp]; exact fun e2 => hoff _ (List.Mem.head _) e2.symm
        refine append_K F1 N1 (hU _) ?_ hsz
        intro ha Fa Na
        rw [List.push_toArray] at Na
        refine wpAny_execs_nil ?_
        dsimp only
        refine wpAny_execs_nil ?_
        refine' tp_next (news' := (la, _) :: (dn, od) :: (lf, W.listOf (bls fs).toArray n) :: rest) Fa Na ?g0 ?gj
        case g0 =>
          intro p hp
          rcases List.mem_cons.mp hp with e | hp
          · subst e; exact hoff (la, W.listOf vs.toArray n') (List.Mem.head _)
          · exact hoff p (List.Mem.tail _ hp)
        case gj =>
          refine ⟨la, dn, _, _, tl, od, ?_, hsys, hD, rfl, rfl, rfl, rfl, h5, rfl⟩
          rw [htk]
          first
            | (rw [← part_yes (fs := fs) (by assumption) (by assumption)]; exact strs_push _ _ hvs)
            | (rw [← part_no (fs := fs) (c := c) (by rintro ⟨h, hx⟩; simp_all)]; exact strs_push _ _ hvs)
            | (rw [← part_no (fs := fs) (c := c) (by rintro ⟨h, hx⟩; omega)]; exact strs_push _ _ hvs)
    · clear FP NP hlt hsys hD
      rintro m₁ _ h tk ⟨la, dn, vs, n', tl, od, hvs, hsys, hD, h1, h2, h3, h4, h5, rfl⟩ FP NP
      replace FP := frN FP (a := Str.ofString "laid") (v := .ref la) h1
      try dsimp only
      k_steps
      rw [show v.cps.toList.take v.cps.size = v.cps.toList from List.take_of_length_le (Nat.le_refl _)] at hvs
      refine join_listW (isListN NP (List.Mem.head _)) hvs (by decide) (parts_weight fs hfs v hv) ?_
      intro tj kj
      try dsimp only
      k_steps
      rw [join_wr]
      rename News _ _ _ _ => NP
      exact hret _ _ _ (by assumption) (fun p hp => NP p (List.Mem.tail _ (List.Mem.tail _ hp)))
end Mine
end
section
open PySem PySem.W PyProof.Rows PyProof.Rows.LSm
namespace Mine
theorem bls_of : ∀ {ys : List Value}, (∀ (i : Nat) y, ys[i]? = some y → ∃ b, y = Value.bool b) → ∃ fs, ys = bls fs ∧ fs.length = ys.length
  | [], _ => ⟨[], rfl, rfl⟩
  | y :: r, h => by
    obtain ⟨b, e⟩ := h 0 y rfl
    obtain ⟨fs, e2, hl⟩ := bls_of (ys := r) fun i y' hy => h (i + 1) y' (by simpa using hy)
    exact ⟨b :: fs, by rw [e, e2]; rfl, by simp [hl]⟩
def El (news : List (Addr × Obj)) (G : Nat → Value → Prop) (i : Nat) (y : Value) (news' : List (Addr × Obj)) : Prop := news' = news ∧ G i y
section
variable {prog : Program} {w : World} {A : Around} {h₀ : Heap} {L : Addr} {m : Str → Option Value} {env : Env} {elt : PySem.Expr} {x : Str} {scope : Scope} {cl : List (Str × Addr)} {s : Shared} {S : List (Addr × Obj) → Prop} {Fin : List Value → List (Addr × Obj) → Prop} {news : List (Addr × Obj)}
theorem compR {n : Nat} {a : Int} (G : Nat → Value → Prop)
    (turn : ∀ i t I oI C oC D m₂ ys h tk (E' : Value → Shared → Prop), i < n → LCg.NsObj oC m₂ → m₂ x = some (.int (a + (i : Int)) t) → Fr h₀ L h m → News h₀ L h ((I, oI) :: (C, oC) :: (D, LCg.lst ys) :: news) → LCg.Off3 I C D news → ((@Ne Nat I C) ∧ (@Ne Nat I D) ∧ (@Ne Nat C D)) →
      wpAny (model prog w) A (eval elt (compEnvC scope cl C env)) (LCg.CompEnd h₀ L m { s with heap := h, toks := tk } I oI C oC D (LCg.lst ys) S (El news G i)) E' { s with heap := h, toks := tk })
    (fin : ∀ ys, ys.length = n → (∀ i y, ys[i]? = some y → G i y) → Fin ys news) : LCg.CompRest prog w A h₀ L m env elt x scope cl s S (fun i v => ∃ t, v = .int (a + (i : Int)) t) Fin n 0 [] news := by
  have key : ∀ (j i : Nat) (ys : List Value), i + j = n → ys.length = i → (∀ i y, ys[i]? = some y → G i y) → LCg.CompRest prog w A h₀ L m env elt x scope cl s S (fun i v => ∃ t, v = .int (a + (i : Int)) t) Fin j i ys news := by
    intro j
    induction j with
    | zero =>
      intro i ys hi hl hy
      exact LCg.CompRest.zero (fin ys (by omega) hy)
    | succ j ih =>
      intro i ys hi hl hy
      refine LCg.CompRest.succ ?_
      rintro v I oI C oC D m₂ h tk E' ⟨t, hv⟩ hC hx F N off ne
      rw [hv] at hx
      refine wpAny_mono (turn i t I oI C oC D m₂ ys h tk E' (by omega) hC hx F N off ne) (fun y s₂ hq => ?_) fun _ _ e => e
      obtain ⟨h', tk', nw, e, F', N', off', hS, hn, hg⟩ := hq
      rw [hn] at N' off' hS
      refine ⟨h', tk', news, e, F', N', off', hS, ?_⟩
      refine ih (i + 1) _ (by omega) (by simp [hl]) ?_
      intro i' y' h'
      rcases Nat.lt_or_ge i' ys.length with hlt | hge
      · rw [List.getElem?_append_left hlt] at h'
        exact hy i' y' h'
      · rw [List.getElem?_append_right hge] at h'
        have : i' - ys.length = 0 := by
          rcases Nat.eq_zero_or_pos (i' - ys.length) with h0 | hp
          · exact h0
          · rw [List.getElem?_eq_none (show [y].length ≤ _ from hp)] at h'; cases h'
        rw [this] at h'
        have e1 : y = y' := by simpa using h'
        have e2 : i' = i := by omega
        rw [← e1, e2]; exact hg
  exact key n 0 [] (by omega) rfl (by intro i y h; simp at h)
end
end Mine
end
section
open PySem PySem.W PyProof.Rows PyProof.Rows.LSm
namespace Mine
local macro_rules | `(tactic| cell_enter) => `(tactic| (refine' code_defC ?k1 ?k2 ?k3 ?k4 ?k5 ?kA ?kF ?kK ?k6 ?k7 ?k8 ?k9 ?kB ?kD ?_ ?c2 ?c3 ?c4; (case kA => exact rfl); (case kF => exact rfl); (case kK => assumption); (case k1 => k_asm); (case k2 => k_asm); (case k3 => k_asm); (case k4 => k_asm); (case k5 => k_asm); (case k6 => k_is); (case k7 => k_is); (case k8 => ktr_room); (case k9 => exact BindsTo.of_eq rfl); (case kB => exact rfl); (case kD => decide +kernel); (case c2 => exact rfl); (case c3 => exact rfl); (case c4 => exact rfl); k_whole; intro g' L' h' tk' cells' FG' F' N' Y' B' X' T' l1; (try k_lt l1); k_cells Y'; (try simp only [List.cons_append, List.nil_append] at N'); (try dsimp only); (try k_lift B'); (try k_fold)))
local macro_rules | `(tactic| ktr_rel) => `(tactic| repeat' (first | (k_unfold; (try dsimp only)) | walk1 | (dsimp only; walk1) | (leave1; try dsimp only) | fail "no step"))
local macro_rules | `(tactic| walk_at "CompSrc") => `(tactic| (k_here; (try k_fmods); k_dflt (refine' LCg.CompSrc.range ?k1 ?k2 ?k3 ?k4 ?k5 ?k6 ?k7 ?_; (case k1 => rfl); (case k2 => k_asm); (case k3 => k_asm); (case k4 => assumption); (case k5 => first | exact small_one (by kcf_bnd) (by kcf_bnd) (by kcf_bnd) (by kcf_bnd) | decide); (case k6 => first | exact rangeSize_nat _ _ | rfl); (case k7 => (rw [PySem.sizeLine_eq]; omega))); intro g'; refine unhold ?_))
local macro_rules | `(tactic| walk_at "CompEnd") => `(tactic| refine unhold ?_)
theorem flags_c {w mean mg mb news} (k : Int) (t : Tok) : Claim 4 w mean mg mb 34 news (0 ≤ k ∧ k < 1000000000) [.int k t] (fun _ h₀ L m s Q =>
     ∀ l h' tk' fs n', 1 ≤ fs.length → fs.length ≤ 4 → Fr h₀ L h' m → News h₀ L h' ((l, W.listOf (bls fs).toArray n') :: news) → Q (.ref l) {s with heap := h', toks := tk'}) := by
  dsimp only [Claim, PG, KF, VW, LS]; k_fill; intros; rename_i hret
  rename (0 ≤ k ∧ _) => hpre
  obtain ⟨hk0, hk1⟩ := hpre
  refine wpAny_call ?_
  k_dflt cell_enter
  ktr_rel
  refine hold ?_
  refine compR (fun i y => ∃ b, y = .bool b) ?_ ?_
  · intro i t I oI C oC D m₂ ys h tk E' hi hC hx F N off ne
    generalize hk' : (0 + (i : Int)) = k' at hx
    have hlo : 0 ≤ k' := by omega
    have hhi : k' < 4 := by omega
    have hMark : KPfMark := True.intro
    simp only [LCg.Off3] at off
    k_steps
    refine hold ?_
    refine LCg.CompEnd.intro (by assumption) (by assumption) _ (by kcf_all) (by first | assumption | (simp only [LCg.Off3, and_true]; done) | (simp only [LCg.Off3, and_true]; assumption)) True.intro ⟨rfl, _, rfl⟩
  · intro ys hlen hys
    obtain ⟨fs, rfl, hfl⟩ := bls_of hys
    k_steps
    rename Fr _ _ _ _ => FP
    rename News _ _ _ _ => NP
    refine hret _ _ _ fs (bls fs).length (by omega) (by omega) FP ?_
    intro p hp
    refine NP p ?_
    rcases List.mem_cons.mp hp with e | hp
    · rw [e]; exact List.Mem.head _
    · exact List.Mem.tail _ (List.Mem.tail _ hp)
end Mine
end
section
open PySem PySem.W PyProof.Rows PyProof.Rows.LSm PySem.Spec PySem.Calls PyProof.V
namespace Mine
def TPE (h₀ : Heap) (L I : Addr) (own : List (Addr × Obj)) (Jn : (Str → Option Value) → List (Addr × Obj) → Prop) (s₁ : Shared) (Q : Flow → Shared → Prop) (f : Flow) (s₂ : Shared) : Prop :=
  match f with
  | .ret v => Q (.ret v) s₂
  | .brk => Q .next s₂
  | _ => ∃ h' tk m' news', s₂ = { s₁ with heap := h', toks := tk } ∧ Fr h₀ L h' m' ∧ News h₀ L h' (news' ++ own) ∧ (∀ p ∈ news', p.1 ≠ I ∧ p.1 ≠ I + 1) ∧ Jn m' news'
theorem tpe_next {h₀ : Heap} {L I : Addr} {own : List (Addr × Obj)} {Jn : (Str → Option Value) → List (Addr × Obj) → Prop} {s₁ : Shared} {Q : Flow → Shared → Prop} {h' : Heap} {tk : Nat} {m' : Str → Option Value} {news' : List (Addr × Obj)}
    (F : Fr h₀ L h' m') (N : News h₀ L h' (news' ++ own)) (hn : ∀ p ∈ news', p.1 ≠ I ∧ p.1 ≠ I + 1) (hj : Jn m' news') : TPE h₀ L I own Jn s₁ Q .next { s₁ with heap := h', toks := tk } := ⟨h', tk, m', news', rfl, F, N, hn, hj⟩
section
variable {prog : Program} {w : World} {A : Around} {E : Value → Shared → Prop} {s : Shared} {env : Env} {h₀ : Heap} {body : List Stmt} {Q : Flow → Shared → Prop}
theorem iterE {elts : List PySem.Expr} {k : Nat} {pos : Pos} {l : Addr} {vs : List Value} {n : Nat} {m₀ : Str → Option Value} {news : List (Addr × Obj)} (J : Nat → (Str → Option Value) → List (Addr × Obj) → Prop)
    (hh : A.handled = none) (F : Fr h₀ env.locals s.heap m₀) (N : News h₀ env.locals s.heap news) (hm : (l, W.listOf vs.toArray n) ∈ news) (hj : J 0 m₀ news)
    (hkeep : ∀ i m news, J i m news → (l, W.listOf vs.toArray n) ∈ news)
    (turn : ∀ i v T t m₁ news₁ h tk own I, vs[i]? = some v → J i m₁ news₁ → (∀ p ∈ news₁, p.1 ≠ I ∧ p.1 ≠ I + 1) → (∀ p ∈ own, p.1 = I ∨ p.1 = I + 1) → IsTup h T #[.int ((i : Nat) : Int) t, v] → Fr h₀ env.locals h m₁ → News h₀ env.locals h (news₁ ++ own) →
      wpAny (model prog w) A (assign (.Tuple elts k pos) env (.ref T)) (fun _ s₂ => wpAny (model prog w) A (execs body env) (TPE h₀ env.locals I own (J (i + 1)) { s with heap := h, toks := tk } Q) E s₂) E { s with heap := h, toks := tk })
    (done : ∀ m₁ news₁ h tk, J vs.length m₁ news₁ → Fr h₀ env.locals h m₁ → News h₀ env.locals h news₁ → Q .next { s with heap := h, toks := tk }) :
    wpAny (model prog w) A (call (.type "enumerate") [.ref l]) (fun xv s₁ => wpAny (model prog w) A (pyIter xv) (fun it s₂ => TurnsAt prog w A h₀ env (.Tuple elts k pos) body Q E it s₂) E s₁) E s := by
  refine ktu_enum (lo := W.listOf vs.toArray n) hh F N hm rfl rfl rfl fun I hI => ?_
  have key : ∀ (j i : Nat), i + j = vs.length → ∀ m₁ news₁, J i m₁ news₁ → (∀ p ∈ news₁, p.1 ≠ I ∧ p.1 ≠ I + 1) →
      ItemsRest prog w A E h₀ env (.Tuple elts k pos) body Q s [(I + 1, "enumerate"), (I, "list_iterator")] [(l, W.listOf vs.toArray n)] (enumItems i (vs.drop i)) m₁ news₁ := by
    intro j
    induction j with
    | zero =>
      intro i hi m₁ news₁ hJ _
      have e : i = vs.length := by omega
      subst e
      rw [List.drop_length]
      intro h tk F₁ N₁
      exact done m₁ news₁ h tk hJ F₁ N₁
    | succ j ih =>
      intro i hi m₁ news₁ hJ hoff
      have hlt : i < vs.length := by omega
      rw [List.drop_eq_getElem_cons hlt]
      refine ItemsRest.pair (fun T t h tk hT F₁ => ?_)
      intro o1 _ o2 _ N₁
      refine wpAny_mono (turn i vs[i] T t m₁ news₁ h tk [(I + 1, o1), (I, o2)] I (by simp) hJ hoff ?_ hT F₁ (news_swap N₁)) (fun _ s₂ h₂ => wpAny_mono h₂ (fun f s₃ p => ?_) fun _ _ e => e) fun _ _ e => e
      · intro p hp
        rcases List.mem_cons.mp hp with e | hp
        · right; rw [e]
        · left; rw [List.mem_singleton.mp hp]
      · have fin : (∃ h' tk' m' news', s₃ = { ({ s with heap := h, toks := tk } : Shared) with heap := h', toks := tk' } ∧ Fr h₀ env.locals h' m' ∧ News h₀ env.locals h' (news' ++ [(I + 1, o1), (I, o2)]) ∧ (∀ p ∈ news', p.1 ≠ I ∧ p.1 ≠ I + 1) ∧ J (i + 1) m' news') →
          UnrEndW h₀ env.locals { s with heap := h, toks := tk } [(I + 1, o1), (I, o2)] (fun m' n' => SubL [(l, W.listOf vs.toArray n)] n' ∧ ItemsRest prog w A E h₀ env (.Tuple elts k pos) body Q s [(I + 1, "enumerate"), (I, "list_iterator")] [(l, W.listOf vs.toArray n)] (enumItems (i + 1) (vs.drop (i + 1))) m' n') s₃ := by
          rintro ⟨h', tk', m', news', e, F', N', hn, hJ'⟩
          refine ⟨h', tk', m', news', e, F', news_swap N', ?_, And.intro (hkeep _ _ _ hJ') trivial, ih (i + 1) (by omega) m' news' hJ' hn⟩
          intro p hp q hq
          rcases List.mem_cons.mp hq with e | hq
          · rw [e]; exact (hn p hp).2
          · rw [List.mem_singleton.mp hq]; exact (hn p hp).1
        cases f with
        | ret v => exact p
        | brk => exact p
        | next => exact fin p
        | cont => exact fin p
  have := key vs.length 0 (by omega) m₀ news hj (fun p hp => ⟨Nat.ne_of_lt (hI p hp), Nat.ne_of_lt (Nat.lt_succ_of_lt (hI p hp))⟩)
  simpa using this
end
end Mine
end
section
open PySem PySem.W PyProof.Rows PyProof.Rows.LSm
namespace Mine
local macro_rules | `(tactic| ktr_rel) => `(tactic| repeat' (first | (k_unfold; (try dsimp only)) | walk1 | (dsimp only; walk1) | (leave1; try dsimp only) | fail "no step"))
local macro_rules | `(tactic| walk_at "exec For Tuple Call") => `(tactic| (k_here; k_dflt (refine' For_turns ?F ?_ ?s ?p; (case F => k_asm); (case s => intro _; rfl); (case p => passes_own))))
local macro_rules | `(tactic| walk_at "call type:enumerate") => `(tactic| refine unhold ?_)
theorem rest_c {w mean mg mb rest} (lf : Addr) (fs : List Bool) (n : Nat) (k : Int) (t : Tok) : Claim 4 w mean mg mb 41 ((lf, W.listOf (bls fs).toArray n) :: rest) (fs.length ≤ 4 ∧ 0 ≤ k ∧ k < 1000000000) [.ref lf, .int k t] (fun _ h₀ L m s Q =>
     ∀ l h' tk' gs n', gs.length = fs.length → Fr h₀ L h' m → News h₀ L h' ((l, W.listOf (bls gs).toArray n') :: (lf, W.listOf (bls fs).toArray n) :: rest) → Q (.ref l) {s with heap := h', toks := tk'}) := by
  dsimp only [Claim, PG, KF, VW, LS]; k_fill; intros; rename_i hret
  rename (_ ∧ 0 ≤ k ∧ _) => hpre
  obtain ⟨hfs, hk0, hk1⟩ := hpre
  refine wpAny_call ?_
  k_dflt cell_enter
  ktr_rel
  refine hold ?_
  rename Fr _ _ _ _ => FP
  rename News _ _ _ _ => NP
  rename (lf < _ ∧ AllLt _ _) => hlt
  refine iterE (l := lf) (vs := bls fs) (n := n) (J := fun i m news => ∃ lr gs n', List.length gs = i ∧ m (Str.ofString "rest") = some (.ref lr) ∧ m (Str.ofString "number") = some (.int k t) ∧ (∀ p ∈ (lf, W.listOf (bls fs).toArray n) :: rest, p.1 ≠ lr) ∧ news = (lr, W.listOf (bls gs).toArray n') :: (lf, W.listOf (bls fs).toArray n) :: rest) rfl FP NP (List.Mem.tail _ (List.Mem.head _)) ⟨_, [], _, rfl, rfl, rfl, allLt_ne hlt, rfl⟩ ?_ ?_ ?_
  · rintro i m _ ⟨lr, gs, n', _, _, _, _, rfl⟩
    exact List.Mem.tail _ (List.Mem.head _)
  · clear FP NP hlt
    rintro i _ T tt m₁ _ h tk own I hv ⟨lr, gs, n', hgl, h1, h2, h3, rfl⟩ hoff hown hT FP NP
    obtain ⟨b, hb, rfl⟩ := bls_get hv
    have hi4 : i < 4 := by
      have : i < fs.length := by
        rcases Nat.lt_or_ge i fs.length with h | h
        · exact h
        · rw [List.getElem?_eq_none h] at hb; cases hb
      omega
    replace FP := frN FP (a := Str.ofString "rest") (v := .ref lr) h1
    replace FP := frN FP (a := Str.ofString "number") (v := .int k t) (by rw [if_neg (by decide)]; exact h2)
    generalize hki : ((i : Nat) : Int) = ki at hT
    have hki0 : 0 ≤ ki := by omega
    have hki4 : ki < 4 := by omega
    k_steps
    rename Fr _ _ _ _ => F1
    rename News _ _ _ _ => N1
    have hU : ∀ o', Upd lr (W.listOf (bls gs).toArray n') o' ((lr, W.listOf (bls gs).toArray n') :: ((lf, W.listOf (bls fs).toArray n) :: rest ++ own)) ((lr, o') :: ((lf, W.listOf (bls fs).toArray n) :: rest ++ own)) := fun o' => by
      refine Upd.head fun p hp => ?_
      rcases List.mem_append.mp hp with hp | hp
      · exact h3 p hp
      · have h9 := hoff _ (List.Mem.head _)
        rcases hown p hp with e | e
        · rw [e]; exact fun e2 => h9.1 e2.symm
        · rw [e]; exact fun e2 => h9.2 e2.symm
    have hsz : (bls gs).toArray.size ≤ sizeLine := by
      show (bls gs).length ≤ 2 ^ 24
      rw [show (bls gs).length = gs.length by simp [bls]]
      omega
    refine append_K F1 N1 (hU _) ?_ hsz
    intro ha Fa Na
    rw [List.push_toArray, show ∀ x, bls gs ++ [Value.bool x] = bls (gs ++ [x]) from fun x => by simp [bls]] at Na
    refine wpAny_execs_nil ?_
    refine' tpe_next (news' := (lr, _) :: (lf, W.listOf (bls fs).toArray n) :: rest) Fa Na ?g0 ?gj
    case g0 =>
      intro p hp
      rcases List.mem_cons.mp hp with e | hp
      · subst e; exact hoff (lr, W.listOf (bls gs).toArray n') (List.Mem.head _)
      · exact hoff p (List.Mem.tail _ hp)
    case gj => exact ⟨lr, _, _, by simp [hgl], rfl, rfl, h3, rfl⟩
  · clear FP NP hlt
    rintro m₁ _ h tk ⟨lr, gs, n', hgl, h1, h2, h3, rfl⟩ FP NP
    replace FP := frN FP (a := Str.ofString "rest") (v := .ref lr) h1
    try dsimp only
    k_steps
    rename Fr _ _ _ _ => FP
    rename News _ _ _ _ => NP
    exact hret _ _ _ _ _ (by rw [hgl]; simp [bls]) FP NP
end Mine
end
section
open PySem PySem.W PyProof.Rows PyProof.Rows.LSm
namespace Mine
def mkB (v : Str) : Bool := v.cps.toList.any (· == 34) || v.cps.toList.any (· == 39)
def okB (v : Str) (fs gs : List Bool) (i : Nat) : Bool := !((fs.getD (fs.length - gs.length + i) false != gs.getD i false) && mkB v && !((fs.take (fs.length - gs.length + i)).any (· == true)))
def coreB (v : Str) (fs : List Bool) (u : Str) (gs : List Bool) : Bool :=
  (wr v (fs.take (fs.length - gs.length)) == u) && (List.range gs.length).all (okB v fs gs)
def qin (l : List Nat) : Prop := 34 ∈ l ∨ 39 ∈ l
theorem tok_cases (q : Bool) (c : Nat) : (tok q c = [c] ∧ c ≠ 38) ∨ (∃ r, tok q c = 38 :: r ∧ isSp c = true) := by
  unfold tok isSp
  repeat' split
  · right; subst c; exact ⟨_, rfl, by decide⟩
  · right; subst c; exact ⟨_, rfl, by decide⟩
  · right; subst c; exact ⟨_, rfl, by decide⟩
  · right; rename_i h; rw [h.2]; exact ⟨_, rfl, by decide⟩
  · right; rename_i h; rw [h.2]; exact ⟨_, rfl, by decide⟩
  · left; exact ⟨rfl, by assumption⟩
theorem sp_cases {c : Nat} (h : isSp c = true) : c = 38 ∨ c = 60 ∨ c = 62 ∨ c = 34 ∨ c = 39 := of_decide_eq_true h
theorem tok_app {a b : Bool} {c d : Nat} {X Y : List Nat} (h : tok a c ++ X = tok b d ++ Y) : c = d ∧ X = Y ∧ (a = b ∨ (c ≠ 34 ∧ c ≠ 39)) := by
  rcases tok_cases a c with ⟨e1, h1⟩ | ⟨r1, e1, h1⟩ <;> rcases tok_cases b d with ⟨e2, h2⟩ | ⟨r2, e2, h2⟩
  · rw [e1, e2] at h
    simp only [List.cons_append, List.nil_append, List.cons.injEq] at h
    obtain ⟨h3, h4⟩ := h
    subst h3
    refine ⟨rfl, h4, ?_⟩
    cases a <;> cases b <;> simp
    · constructor
      · rintro rfl; simp [tok] at e2
      · rintro rfl; simp [tok] at e2
    · constructor
      · rintro rfl; simp [tok] at e1
      · rintro rfl; simp [tok] at e1
  · rw [e1, e2] at h
    simp only [List.cons_append, List.nil_append, List.cons.injEq] at h
    exact absurd h.1 h1
  · rw [e1, e2] at h
    simp only [List.cons_append, List.nil_append, List.cons.injEq] at h
    exact absurd h.1.symm h2
  · rcases sp_cases h1 with rfl | rfl | rfl | rfl | rfl <;> rcases sp_cases h2 with rfl | rfl | rfl | rfl | rfl <;> (clear e1 e2; revert h; cases a <;> cases b <;> simp [tok])
theorem tok_ne (q : Bool) (c : Nat) : tok q c ≠ [] := by
  rcases tok_cases q c with ⟨e, _⟩ | ⟨r, e, _⟩ <;> rw [e] <;> simp
theorem tok_free {a b : Bool} {c : Nat} (h : c ≠ 34 ∧ c ≠ 39) : tok a c = tok b c := by
  unfold tok
  simp [h.1, h.2]
theorem escL_inj (a b : Bool) : ∀ x y : List Nat, escL a x = escL b y ↔ x = y ∧ (a = b ∨ ¬ qin x)
  | [], [] => by simp [escL, qin]
  | [], d :: y => by
    simp only [escL, List.flatMap_nil, List.flatMap_cons]
    constructor
    · intro h
      have := List.append_eq_nil_iff.mp h.symm
      exact absurd this.1 (tok_ne _ _)
    · rintro ⟨h, _⟩; cases h
  | c :: x, [] => by
    simp only [escL, List.flatMap_nil, List.flatMap_cons]
    constructor
    · intro h
      have := List.append_eq_nil_iff.mp h
      exact absurd this.1 (tok_ne _ _)
    · rintro ⟨h, _⟩; cases h
  | c :: x, d :: y => by
    have ih := escL_inj a b x y
    show tok a c ++ escL a x = tok b d ++ escL b y ↔ _
    constructor
    · intro h
      obtain ⟨h1, h2, h3⟩ := tok_app h
      obtain ⟨h4, h5⟩ := ih.mp h2
      subst h1 h4
      refine ⟨rfl, ?_⟩
      rcases h3 with h3 | h3
      · exact .inl h3
      · rcases h5 with h5 | h5
        · exact .inl h5
        · right
          unfold qin at h5 ⊢
          simp only [List.mem_cons]
          rintro ((h | h) | (h | h))
          · exact h3.1 h.symm
          · exact h5 (.inl h)
          · exact h3.2 h.symm
          · exact h5 (.inr h)
    · rintro ⟨h, h2⟩
      cases h
      rcases h2 with h2 | h2
      · subst h2; rfl
      · unfold qin at h2
        simp only [List.mem_cons] at h2
        rw [tok_free (a := a) (b := b) (by omega), ih.mpr ⟨rfl, .inr (by unfold qin; exact fun h => h2 (h.elim (fun h => .inl (.inr h)) (fun h => .inr (.inr h))))⟩]
theorem qin_esc (q : Bool) : ∀ x : List Nat, qin (escL q x) ↔ qin x ∧ q = false
  | [] => by simp [escL, qin]
  | c :: x => by
    have ih := qin_esc q x
    have e : qin (tok q c) ↔ (c = 34 ∨ c = 39) ∧ q = false := by
      unfold tok qin
      repeat' split
      all_goals (cases q <;> simp_all <;> omega)
    have e2 : qin (escL q (c :: x)) ↔ qin (tok q c) ∨ qin (escL q x) := by
      show qin (tok q c ++ escL q x) ↔ _
      unfold qin; simp only [List.mem_append]
      constructor
      · rintro ((h | h) | (h | h))
        · exact .inl (.inl h)
        · exact .inr (.inl h)
        · exact .inl (.inr h)
        · exact .inr (.inr h)
      · rintro ((h | h) | (h | h))
        · exact .inl (.inl h)
        · exact .inr (.inl h)
        · exact .inl (.inr h)
        · exact .inr (.inr h)
    have e3 : qin (c :: x) ↔ (c = 34 ∨ c = 39) ∨ qin x := by
      unfold qin; simp only [List.mem_cons]
      constructor
      · rintro ((h | h) | (h | h))
        · exact .inl (.inl h.symm)
        · exact .inr (.inl h)
        · exact .inl (.inr h.symm)
        · exact .inr (.inr h)
      · rintro ((h | h) | (h | h))
        · exact .inl (.inl h.symm)
        · exact .inr (.inl h.symm)
        · exact .inl (.inr h)
        · exact .inr (.inr h)
    rw [e2, e, ih, e3]
    constructor
    · rintro (⟨h, k⟩ | ⟨h, k⟩)
      · exact ⟨.inl h, k⟩
      · exact ⟨.inr h, k⟩
    · rintro ⟨h | h, k⟩
      · exact .inl ⟨h, k⟩
      · exact .inr ⟨h, k⟩
theorem qin_wr : ∀ (fs : List Bool) (x : List Nat), qin (wrL x fs) ↔ qin x ∧ true ∉ fs
  | [], x => by simp [wrL]
  | q :: r, x => by
    show qin (wrL (escL q x) r) ↔ _
    rw [qin_wr r, qin_esc]
    cases q <;> simp
def coreP (x : List Nat) (fs : List Bool) (y : List Nat) (gs : List Bool) : Prop :=
  wrL x (fs.take (fs.length - gs.length)) = y ∧ ∀ i, i < gs.length → fs.getD (fs.length - gs.length + i) false = gs.getD i false ∨ ¬ qin x ∨ true ∈ fs.take (fs.length - gs.length + i)
theorem core_iff (x y : List Nat) : ∀ (n : Nat) (fs gs : List Bool), gs.length = n → gs.length ≤ fs.length → (wrL x fs = wrL y gs ↔ coreP x fs y gs)
  | 0, fs, gs, h, _ => by
    have : gs = [] := List.eq_nil_of_length_eq_zero h
    subst this
    simp [coreP, wrL]
  | n + 1, fs, gs, h, hl => by
    rcases List.eq_nil_or_concat gs with e | ⟨gs', b, e⟩
    · subst e; simp at h
    rcases List.eq_nil_or_concat fs with e2 | ⟨fs', a, e2⟩
    · subst e2; rw [h] at hl; simp at hl
    rw [List.concat_eq_append] at e e2
    subst e e2
    have hg : gs'.length = n := by simpa using h
    have hl' : gs'.length ≤ fs'.length := by simpa using hl
    have ih := core_iff x y n fs' gs' hg hl'
    rw [wrL_snoc, wrL_snoc, escL_inj, ih, qin_wr]
    have hm : (fs' ++ [a]).length - (gs' ++ [b]).length = fs'.length - gs'.length := by simp
    unfold coreP
    rw [hm]
    have ht : ∀ i, i ≤ gs'.length → (fs' ++ [a]).take (fs'.length - gs'.length + i) = fs'.take (fs'.length - gs'.length + i) := fun i hi => List.take_append_of_le_length (by omega)
    have ht0 := ht 0 (Nat.zero_le _)
    simp only [Nat.add_zero] at ht0
    rw [ht0]
    have hd : ∀ i, i < gs'.length → (fs' ++ [a]).getD (fs'.length - gs'.length + i) false = fs'.getD (fs'.length - gs'.length + i) false ∧ (gs' ++ [b]).getD i false = gs'.getD i false := fun i hi => by
      constructor
      · rw [List.getD_eq_getElem?_getD, List.getElem?_append_left (by omega), ← List.getD_eq_getElem?_getD]
      · rw [List.getD_eq_getElem?_getD, List.getElem?_append_left hi, ← List.getD_eq_getElem?_getD]
    have hlast : (fs' ++ [a]).getD (fs'.length - gs'.length + gs'.length) false = a ∧ (gs' ++ [b]).getD gs'.length false = b := by
      constructor
      · rw [Nat.sub_add_cancel hl']; simp [List.getD_eq_getElem?_getD]
      · simp [List.getD_eq_getElem?_getD]
    constructor
    · rintro ⟨⟨h1, h2⟩, h3⟩
      refine ⟨h1, fun i hi => ?_⟩
      have hi' : i < gs'.length + 1 := by simpa using hi
      rw [ht i (by omega)]
      rcases Nat.lt_or_ge i gs'.length with hlt | hge
      · rw [(hd i hlt).1, (hd i hlt).2]; exact h2 i hlt
      · have : i = gs'.length := by omega
        subst this
        rw [hlast.1, hlast.2, Nat.sub_add_cancel hl', List.take_length]
        rcases h3 with h3 | h3
        · exact .inl h3
        · right
          by_cases hq : qin x
          · right; exact Classical.byContradiction fun hc => h3 ⟨hq, hc⟩
          · exact .inl hq
    · rintro ⟨h1, h2⟩
      refine ⟨⟨h1, fun i hi => ?_⟩, ?_⟩
      · have := h2 i (by simp; omega)
        rw [ht i (by omega), (hd i hi).1, (hd i hi).2] at this
        exact this
      · have := h2 gs'.length (by simp)
        rw [ht _ (Nat.le_refl _), hlast.1, hlast.2, Nat.sub_add_cancel hl', List.take_length] at this
        rcases this with h3 | h3 | h3
        · exact .inl h3
        · exact .inr fun hc => h3 hc.1
        · exact .inr fun hc => hc.2 h3
theorem str_eq_iff (a b : Str) : a = b ↔ a.cps.toList = b.cps.toList := by
  obtain ⟨⟨x⟩⟩ := a
  obtain ⟨⟨y⟩⟩ := b
  simp
theorem mk_iff (v : Str) : mkB v = true ↔ qin v.cps.toList := by
  unfold mkB qin
  rw [Bool.or_eq_true, List.any_beq', List.any_beq', List.contains_iff_mem, List.contains_iff_mem]
theorem core_B (v : Str) (fs : List Bool) (u : Str) (gs : List Bool) (h : gs.length ≤ fs.length) : coreB v fs u gs = decide (wr v fs = wr u gs) := by
  rw [Bool.eq_iff_iff, decide_eq_true_iff, str_eq_iff, wr_L, wr_L, core_iff _ _ _ _ _ rfl h]
  unfold coreB coreP okB
  simp only [Bool.and_eq_true, beq_iff_eq, str_eq_iff, wr_L, List.all_eq_true, List.mem_range]
  refine and_congr Iff.rfl (forall_congr' fun i => imp_congr Iff.rfl ?_)
  have h1 : (((fs.take (fs.length - gs.length + i)).any (· == true)) = true) ↔ true ∈ fs.take (fs.length - gs.length + i) := by
    simp [List.any_eq_true]
  rw [← h1, ← mk_iff]
  generalize fs.getD (fs.length - gs.length + i) false = p
  generalize gs.getD i false = q
  generalize mkB v = r
  generalize (fs.take (fs.length - gs.length + i)).any (· == true) = z
  cases p <;> cases q <;> cases r <;> cases z <;> decide
end Mine
end
section
open PySem PySem.W PyProof.Rows PyProof.Rows.LSm
namespace Mine
section
variable {prog : Program} {w : World} {A : Around} {E : Value → Shared → Prop} {s : Shared} {h₀ : Heap} {L l : Addr} {m : Str → Option Value} {news : List (Addr × Obj)} {value slice : PySem.Expr} {vu : Value} {y : Int} {Q : Value → Shared → Prop} {fs : List Bool} {n : Nat}
theorem pick_up (vs : List Value) (h : 0 ≤ y) : kms_pick vs none (some y) = vs.take y.toNat := by
  unfold kms_pick kms_lo kms_hi
  simp only [List.drop_zero, Nat.sub_zero]
  rw [if_neg (by omega), List.take_eq_take_iff]
  omega
theorem pick_from (vs : List Value) (h : 0 ≤ y) : kms_pick vs (some y) none = vs.drop y.toNat := by
  unfold kms_pick kms_lo kms_hi
  simp only []
  rw [if_neg (by omega)]
  rcases Nat.le_total y.toNat vs.length with h1 | h1
  · rw [Nat.min_eq_left h1, List.take_of_length_le (by simp)]
  · rw [Nat.min_eq_right h1, List.drop_length, List.drop_of_length_le h1]; simp
theorem sl_up (F : Fr h₀ L s.heap m) (N : News h₀ L s.heap news) (hm : (l, W.listOf (bls fs).toArray n) ∈ news) (pu : IsPart vu (some y)) (h0 : 0 ≤ y) (hz : fs.length ≤ 1000)
    (h : ∀ D h', Fr h₀ L h' m → News h₀ L h' ((D, W.listOf (bls (fs.take y.toNat)).toArray 0) :: news) → (∀ p ∈ news, p.1 < D) → Q (.ref D) { s with heap := h' })
    (hs : subscripted slice false (.ref l) (.ref s.heap.objs.size) = operate [.ref s.heap.objs.size, .ref l] (getItem (.ref l) (.ref s.heap.objs.size)) := by with_unfolding_all rfl) (ht : ∀ r, letTemporaryGo value (.ref l) r = pure () := by kmk_pure) :
    wpAny (model prog w) A (subscriptTail value slice (.ref l) (.ref s.heap.objs.size)) Q E { s with heap := s.heap.push { cls := .type "slice", data := .fields #[.none, vu, .none] } } := by
  refine kms_slice_lit F N (isListN N hm) .none pu (pick_up _ h0) (fun D h' F' N' l1 => h D h' F' ?_ l1) hs ht ?_
  · rw [show bls (fs.take y.toNat) = (bls fs).take y.toNat by simp [bls]]; exact N'
  · show (bls fs).length ≤ 2 ^ 24
    rw [show (bls fs).length = fs.length by simp [bls]]; omega
theorem sl_from (F : Fr h₀ L s.heap m) (N : News h₀ L s.heap news) (hm : (l, W.listOf (bls fs).toArray n) ∈ news) (pu : IsPart vu (some y)) (h0 : 0 ≤ y) (hz : fs.length ≤ 1000)
    (h : ∀ D h', Fr h₀ L h' m → News h₀ L h' ((D, W.listOf (bls (fs.drop y.toNat)).toArray 0) :: news) → (∀ p ∈ news, p.1 < D) → Q (.ref D) { s with heap := h' })
    (hs : subscripted slice false (.ref l) (.ref s.heap.objs.size) = operate [.ref s.heap.objs.size, .ref l] (getItem (.ref l) (.ref s.heap.objs.size)) := by with_unfolding_all rfl) (ht : ∀ r, letTemporaryGo value (.ref l) r = pure () := by kmk_pure) :
    wpAny (model prog w) A (subscriptTail value slice (.ref l) (.ref s.heap.objs.size)) Q E { s with heap := s.heap.push { cls := .type "slice", data := .fields #[vu, .none, .none] } } := by
  refine kms_slice_lit F N (isListN N hm) pu .none (pick_from _ h0) (fun D h' F' N' l1 => h D h' F' ?_ l1) hs ht ?_
  · rw [show bls (fs.drop y.toNat) = (bls fs).drop y.toNat by simp [bls]]; exact N'
  · show (bls fs).length ≤ 2 ^ 24
    rw [show (bls fs).length = fs.length by simp [bls]]; omega
end
end Mine
end
section
open PySem PySem.W PyProof.Rows PyProof.Rows.LSm
namespace Mine
theorem core_no1 {v fs u gs} (h : (wr v (List.take (fs.length - gs.length) fs) != u) = true) : coreB v fs u gs = false := by
  unfold coreB
  rw [bne, Bool.not_eq_true'] at h
  rw [h]; rfl
theorem core_no2 {v fs u gs} {i : Nat} (hi : i < gs.length) (h : okB v fs gs i = false) : coreB v fs u gs = false := by
  unfold coreB
  rw [Bool.and_eq_false_iff]
  right
  rw [List.all_eq_false]
  exact ⟨i, List.mem_range.mpr hi, by rw [h]; decide⟩
theorem core_yes {v fs u gs} (h : (wr v (List.take (fs.length - gs.length) fs) != u) = false) (h2 : ∀ i, i < gs.length → okB v fs gs i = true) : coreB v fs u gs = true := by
  unfold coreB
  rw [bne, Bool.not_eq_false'] at h
  rw [h, Bool.true_and, List.all_eq_true]
  exact fun i hi => h2 i (List.mem_range.mp hi)
theorem tpe_ret {h₀ : Heap} {L I : Addr} {own : List (Addr × Obj)} {Jn : (Str → Option Value) → List (Addr × Obj) → Prop} {s₁ : Shared} {Q : Flow → Shared → Prop} {v : Value} {s₂ : Shared} (h : Q (.ret v) s₂) : TPE h₀ L I own Jn s₁ Q (.ret v) s₂ := h
section
variable {v : Str} {fs gs : List Bool} {i k : Nat} {b : Bool}
theorem ok_eq (hk : k = fs.length - gs.length + i) (hb : gs.getD i false = b) (x y z : Bool) (hx : (fs.getD k false != b) = x) (hy : mkB v = y) (hz : ((fs.take k).any fun x => x == true) = z) : okB v fs gs i = !(x && y && !z) := by
  unfold okB; rw [← hk, hb, hx, hy, hz]
theorem ok1 (hk : k = fs.length - gs.length + i) (hb : gs.getD i false = b) (hx : (fs.getD k false != b) = false) : okB v fs gs i = true := by
  rw [ok_eq hk hb false _ _ hx rfl rfl]; rfl
theorem ok2 (hk : k = fs.length - gs.length + i) (hb : gs.getD i false = b) (hx : mkB v = false) : okB v fs gs i = true := by
  rw [ok_eq hk hb _ false _ rfl hx rfl, Bool.and_false]; rfl
theorem ok3 (hk : k = fs.length - gs.length + i) (hb : gs.getD i false = b) (hx : ((fs.take k).any fun x => x == true) = true) : okB v fs gs i = true := by
  rw [ok_eq hk hb _ _ true rfl rfl hx, Bool.not_true, Bool.and_false]; rfl
theorem ok_no (hk : k = fs.length - gs.length + i) (hb : gs.getD i false = b) (hx : (fs.getD k false != b) = true) (hy : mkB v = true) (hz : ((fs.take k).any fun x => x == true) = false) : okB v fs gs i = false := by
  rw [ok_eq hk hb true true false hx hy hz]; rfl
end
theorem occ_one (v : Str) (c : Nat) : (!(Builtin.Str.occurrences v ⟨#[c]⟩ 0 v.length 1).isEmpty) = v.cps.toList.any (· == c) := by
  rw [StrLaws.found_one, List.any_beq', List.contains_eq_mem]
local macro_rules | `(tactic| walk_at "subscriptTail Name Slice ref ref") => `(tactic| (k_here; (with_reducible show wpAny _ _ (subscriptTail _ (PySem.Expr.Slice none (some _) none _) (Value.ref _) (Value.ref _)) _ _ _); k_dflt (refine' sl_up ?F ?N ?m ?p ?h0 ?z ?_ ?s ?t; (case F => k_asm); (case N => k_asm); (case m => (repeat (first | exact List.Mem.head _ | apply List.Mem.tail))); (case p => kmk_part); (case h0 => omega); (case z => omega); (case s => with_unfolding_all rfl); (case t => kmk_pure)); intro D' h' F' N' l1; (try k_lt l1); (try k_sweep)))
local macro_rules | `(tactic| walk_at "compareOp NotIn bool ref") => `(tactic| (k_here; (with_reducible show wpAny _ _ (compareOp CmpOp.NotIn (Value.bool _) (Value.ref _)) _ _ _); k_dflt (refine' notin_list_bools ?m ?_; (case m => (rename News _ _ _ _ => hNews; exact isListN hNews (by (repeat (first | exact List.Mem.head _ | apply List.Mem.tail))))))))
local macro_rules | `(tactic| walk_at "exec For Tuple Call") => `(tactic| (k_here; k_dflt (refine' For_turns ?F ?_ ?s ?p; (case F => k_asm); (case s => intro _; rfl); (case p => passes_own))))
theorem core_c {w mean mg mb rest} (v : Str) (t : Tok) (lf : Addr) (fs : List Bool) (n : Nat) (u : Str) (tu : Tok) (lg : Addr) (gs : List Bool) (n2 : Nat) : Claim 6 w mean mg mb 62 ((lf, W.listOf (bls fs).toArray n) :: (lg, W.listOf (bls gs).toArray n2) :: rest) (fs.length ≤ 4 ∧ gs.length ≤ fs.length ∧ v.length ≤ 900 ∧ u.length ≤ 900) [.str v t, .ref lf, .str u tu, .ref lg] (fun _ h₀ L m s Q =>
     ∀ h' tk', Fr h₀ L h' m → News h₀ L h' ((lf, W.listOf (bls fs).toArray n) :: (lg, W.listOf (bls gs).toArray n2) :: rest) → Q (.bool (coreB v fs u gs)) {s with heap := h', toks := tk'}) := by
  dsimp only [Claim, PG, KF, VW, LS]; k_fill; intros; rename_i hret
  rename (_ ∧ _ ≤ fs.length ∧ _) => hpre
  obtain ⟨hfs, hgs, hv, hu⟩ := hpre
  have hB : BoolsAre (bls fs) fs := bls_are fs
  have hB2 : BoolsAre (bls gs) gs := bls_are gs
  refine wpAny_call ?_
  k_dflt cell_enter
  k_steps
  have hmore : ((fs.length : Int) - (gs.length : Int)).toNat = fs.length - gs.length := by omega
  rename News _ _ _ _ => N1
  rw [hmore] at N1
  refine' written_c (mean := mean) (mg := mg) (mb := mb) (rest := (lf, W.listOf (bls fs).toArray n) :: (lg, W.listOf (bls gs).toArray n2) :: rest) v _ _ (fs.take (fs.length - gs.length)) 0 _ _ _ _ _ _ _ _ _ _ _ _ _ _ _ _ _ ?k1 ?k2 ?k3 ?k4 ?k5 ?kK ?kp ?kd ?ku ?kR
  case k1 => k_asm
  case k2 => k_asm
  case k3 => k_asm
  case k4 => k_asm
  case k5 => k_asm
  case kK => exact rfl
  case kp => exact ⟨by simp; omega, hv⟩
  case kd => ktr_room
  case ku => ktr_units
  intro t9 h9 tk9 F9 N9
  try dsimp only
  k_steps
  · rw [core_no1 (by assumption)] at hret
    rename News _ _ _ _ => N9
    exact hret _ _ (by assumption) (fun p hp => N9 p (List.Mem.tail _ hp))
  all_goals
    rename Fr _ _ _ _ => FP
    rename News _ _ _ _ => NP
    first
      | replace FP := frN FP (a := Str.ofString "marked") (v := .bool (mkB v)) (by
          have e : mkB v = !(Builtin.Str.occurrences v (Str.ofString "'") 0 v.length 1).isEmpty := by
            rw [show Str.ofString "'" = ⟨#[39]⟩ from rfl, occ_one]
            rename ((Builtin.Str.occurrences v (Str.ofString "\"") 0 v.length 1).isEmpty = true) => h34
            have h34' : (v.cps.toList.any (· == 34)) = false := by rw [← occ_one]; rw [show (⟨#[34]⟩ : Str) = Str.ofString "\"" from rfl, h34]; rfl
            unfold mkB; rw [h34']; rfl
          rw [e]; exact rfl)
      | replace FP := frN FP (a := Str.ofString "marked") (v := .bool (mkB v)) (by
          have e : mkB v = !(Builtin.Str.occurrences v (Str.ofString "\"") 0 v.length 1).isEmpty := by
            rename ((Builtin.Str.occurrences v (Str.ofString "\"") 0 v.length 1).isEmpty = false) => h34
            rw [h34]
            have h34' : (v.cps.toList.any (· == 34)) = true := by rw [← occ_one]; rw [show (⟨#[34]⟩ : Str) = Str.ofString "\"" from rfl, h34]; rfl
            unfold mkB; rw [h34']; rfl
          rw [e]; exact rfl)
    replace NP : News _ _ _ ((lf, W.listOf (bls fs).toArray n) :: (lg, W.listOf (bls gs).toArray n2) :: rest) := fun p hp => NP p (List.Mem.tail _ hp)
    refine iterE (l := lg) (vs := bls gs) (n := n2) (J := fun i m news => ∃ tm, m (Str.ofString "flags") = some (.ref lf) ∧ m (Str.ofString "more") = some (.int ((fs.length : Int) - (gs.length : Int)) tm) ∧ m (Str.ofString "marked") = some (.bool (mkB v)) ∧ (∀ j, j < i → okB v fs gs j = true) ∧ news = (lf, W.listOf (bls fs).toArray n) :: (lg, W.listOf (bls gs).toArray n2) :: rest) rfl FP NP (List.Mem.tail _ (List.Mem.head _)) ?_ ?_ ?_ ?_
    · exact ⟨_, rfl, rfl, rfl, fun j hj => absurd hj (Nat.not_lt_zero j), rfl⟩
    · rintro i m _ ⟨tm, _, _, _, _, rfl⟩
      exact List.Mem.tail _ (List.Mem.head _)
    · clear FP NP
      rintro i _ T tt m₁ _ h tk own I hv ⟨tm, h1, h2, h3, h4, rfl⟩ hoff hown hT FP NP
      obtain ⟨b, hb, rfl⟩ := bls_get hv
      have hi4 : i < gs.length := by
        rcases Nat.lt_or_ge i gs.length with h | h
        · exact h
        · rw [List.getElem?_eq_none h] at hb; cases hb
      have hbi : gs.getD i false = b := by rw [List.getD_eq_getElem?_getD, hb]; rfl
      replace FP := frN FP (a := Str.ofString "flags") (v := .ref lf) h1
      replace FP := frN FP (a := Str.ofString "more") (v := .int ((fs.length : Int) - (gs.length : Int)) tm) (by rw [if_neg (by decide)]; exact h2)
      replace FP := frN FP (a := Str.ofString "marked") (v := .bool (mkB v)) (by rw [if_neg (by decide), if_neg (by decide)]; exact h3)
      generalize hki : ((i : Nat) : Int) = ki at hT
      have hki0 : 0 ≤ ki := by omega
      have hki4 : ki < 4 := by omega
      have hidx : ((fs.length : Int) - (gs.length : Int) + ki).toNat = fs.length - gs.length + i := by omega
      k_steps
      all_goals
        rename News _ _ _ _ => N8
        first
          | (have hok : okB v fs gs i = true := by
               first
                 | exact ok1 hidx hbi (by assumption)
                 | exact ok2 hidx hbi (by assumption)
                 | exact ok3 hidx hbi (by assumption)
             refine' tpe_next (news' := (lf, W.listOf (bls fs).toArray n) :: (lg, W.listOf (bls gs).toArray n2) :: rest) (by assumption) ?g1 hoff ?g2
             case g1 => first | exact N8 | exact fun p hp => N8 p (List.Mem.tail _ hp)
             case g2 =>
               refine ⟨tm, rfl, rfl, rfl, ?_, rfl⟩
               intro j hj
               rcases Nat.lt_or_ge j i with h | h
               · exact h4 j h
               · rw [show j = i by omega]; exact hok)
          | (have hno : okB v fs gs i = false := ok_no hidx hbi (by assumption) (by assumption) (by assumption)
             rw [core_no2 hi4 hno] at hret
             refine tpe_ret ?_
             dsimp only
             k_steps
             rename News _ _ _ _ => N9
             exact hret _ _ (by assumption) (fun p hp => N9 p (List.Mem.tail _ (List.mem_append_left _ hp))))
    · clear FP NP
      rintro m₁ _ h tk ⟨tm, h1, h2, h3, h4, rfl⟩ FP NP
      try dsimp only
      rw [core_yes (by assumption) (by intro i hi; exact h4 i (by simpa [bls] using hi))] at hret
      k_steps
      exact hret _ _ (by assumption) (by assumption)
end Mine
end
section
open PySem PySem.W PyProof.Rows PyProof.Rows.LSm
namespace Mine
theorem meet_c {w mean mg mb rest} (v : Str) (t : Tok) (lf : Addr) (fs : List Bool) (n : Nat) (u : Str) (tu : Tok) (lg : Addr) (gs : List Bool) (n2 : Nat) : Claim 8 w mean mg mb 62 ((lf, W.listOf (bls fs).toArray n) :: (lg, W.listOf (bls gs).toArray n2) :: rest) (fs.length ≤ 4 ∧ gs.length ≤ 4 ∧ v.length ≤ 900 ∧ u.length ≤ 900) [.str v t, .ref lf, .str u tu, .ref lg] (fun _ h₀ L m s Q =>
     ∀ h' tk', Fr h₀ L h' m → News h₀ L h' ((lf, W.listOf (bls fs).toArray n) :: (lg, W.listOf (bls gs).toArray n2) :: rest) → Q (.bool (decide (wr v fs = wr u gs))) {s with heap := h', toks := tk'}) := by
  dsimp only [Claim, PG, KF, VW, LS]; k_fill; intros; rename_i hret
  rename (_ ∧ _ ≤ 4 ∧ _) => hpre
  obtain ⟨hfs, hgs, hv, hu⟩ := hpre
  rcases Nat.lt_or_ge fs.length gs.length with hlt | hge
  · have hB : BoolsAre (bls fs) fs := bls_are fs
    have hB2 : BoolsAre (bls gs) gs := bls_are gs
    refine wpAny_call ?_
    k_dflt cell_enter
    k_steps
    refine' core_c (mean := mean) (mg := mg) (mb := mb) (rest := rest) u _ lg gs n2 v _ lf fs n _ _ _ _ _ _ _ _ _ _ _ _ _ _ _ _ _ ?k1 ?k2 ?k3 ?k4 ?k5 ?kK ?kp ?kd ?ku ?kR
    case k1 => k_asm
    case k2 => k_asm
    case k3 => k_asm
    case k4 =>
      rename News _ _ _ _ => N9
      intro p hp
      refine N9 p ?_
      rcases List.mem_cons.mp hp with e | hp
      · rw [e]; exact List.Mem.tail _ (List.Mem.head _)
      rcases List.mem_cons.mp hp with e | hp
      · rw [e]; exact List.Mem.head _
      · exact List.Mem.tail _ (List.Mem.tail _ hp)
    case k5 => k_asm
    case kK => exact rfl
    case kp => exact ⟨hgs, Nat.le_of_lt hlt, hu, hv⟩
    case kd => ktr_room
    case ku => ktr_units
    intro h9 tk9 F9 N9
    rw [core_B u gs v fs (Nat.le_of_lt hlt)]
    have e : decide (wr u gs = wr v fs) = decide (wr v fs = wr u gs) := decide_eq_decide.mpr ⟨Eq.symm, Eq.symm⟩
    rw [e]
    try dsimp only
    k_steps
    rename News _ _ _ _ => N9
    refine hret _ _ (by assumption) (fun p hp => N9 p ?_)
    rcases List.mem_cons.mp hp with e | hp
    · rw [e]; exact List.Mem.tail _ (List.Mem.head _)
    rcases List.mem_cons.mp hp with e | hp
    · rw [e]; exact List.Mem.head _
    · exact List.Mem.tail _ (List.Mem.tail _ hp)
  · refine' core_c (mean := mean) (mg := mg) (mb := mb) (rest := rest) v _ lf fs n u _ lg gs n2 _ _ _ _ _ _ _ _ _ _ _ _ _ _ _ _ _ ?j1 ?j2 ?j3 ?j4 ?j5 ?jK ?jp ?jd ?ju ?jR
    case j1 => k_asm
    case j2 => k_asm
    case j3 => k_asm
    case j4 => k_asm
    case j5 => k_asm
    case jK => assumption
    case jp => exact ⟨hfs, hge, hv, hu⟩
    case jd => omega
    case ju => omega
    intro h9 tk9 F9 N9
    rw [core_B v fs u gs hge]
    exact hret _ _ F9 N9
end Mine
end
section
open PySem PySem.W PyProof.Rows PySem.Calls PyProof.V PySem.Spec
namespace Mine
def OkS (v : Str) : Prop := ∀ c ∈ v.cps.toList, c < 1114112
theorem okS_iff (v : Str) : PyData.strOk v = true ↔ OkS v := by
  unfold PyData.strOk OkS
  rw [← Array.all_toList, List.all_eq_true]
  simp
theorem canLayS : ∀ ns : List Str, (∀ x ∈ ns, OkS x) → PyData.canLayAll0 (ns.map PyData.str) = true
  | [], _ => rfl
  | a :: r, h => by
    have h1 := (okS_iff a).mpr (h a (List.mem_cons_self ..))
    simp [PyData.canLayAll0, PyData.canLay0, h1, canLayS r fun x hx => h x (List.mem_cons_of_mem _ hx)]
theorem depthS : ∀ ns : List Str, PyData.depthAll (ns.map PyData.str) = 0
  | [] => rfl
  | _ :: r => by simp [PyData.depthAll, PyData.depth, depthS r]
theorem shapedS (ns : List Str) (ok : ∀ x ∈ ns, OkS x) : SeqAt.shaped (.list (ns.map PyData.str)) = true := by
  simp [SeqAt.shaped, PyData.canLay0, PyData.depth, canLayS ns ok, depthS]
theorem sameS : ∀ ns ms : List Str, PySem.Spec.sameAll (ns.map PyData.str) (ms.map PyData.str) = decide (ns = ms)
  | [], [] => by simp [PySem.Spec.sameAll]
  | [], _ :: _ => by simp [PySem.Spec.sameAll]
  | _ :: _, [] => by simp [PySem.Spec.sameAll]
  | a :: r, b :: t => by
    simp only [List.map_cons, PySem.Spec.sameAll, PySem.Spec.same, sameS r t]
    by_cases h : a = b <;> by_cases h' : r = t <;> simp [h, h']
theorem sameLS (ns ms : List Str) : PySem.Spec.same (.list (ns.map PyData.str)) (.list (ms.map PyData.str)) = decide (ns = ms) := by
  simp only [PySem.Spec.same]; exact sameS ns ms
theorem carriedS : ∀ {vs : List Value} {ns : List Str}, StrsAre vs ns → CarriedAll vs (ns.map PyData.str)
  | _, _, .nil => .nil
  | _, _, .cons _ t r => .cons (.str _ t) (carriedS r)
section
variable {prog : Program} {w : World} {A : Around} {E : Value → Shared → Prop} {s : Shared} {a b : Addr} {xs ys : List Value} {ns ms : List Str} {Q : Value → Shared → Prop}
theorem eq_strs (ha : s.heap.IsList a xs.toArray) (hb : s.heap.IsList b ys.toArray) (hi : StrsAre xs ns) (hj : StrsAre ys ms) (ok : ∀ x ∈ ns, OkS x) (ok2 : ∀ x ∈ ms, OkS x) (hu : A.units + 64 < cLine) (h : Q (.bool (decide (ns = ms))) s) :
    wpAny (model prog w) A (compareOp .Eq (.ref a) (.ref b)) Q E s :=
  eq_dataH_same (reads_newData ha (carriedS hi)) (reads_newData hb (carriedS hj)) (shapedS _ ok) (shapedS _ ok2) hu (SeqAt.noMix_of_shape (.list .str) rfl _ _ (list_map_has fun _ => rfl) (list_map_has fun _ => rfl)) (by rw [sameLS]; exact h)
theorem ne_strs (ha : s.heap.IsList a xs.toArray) (hb : s.heap.IsList b ys.toArray) (hi : StrsAre xs ns) (hj : StrsAre ys ms) (ok : ∀ x ∈ ns, OkS x) (ok2 : ∀ x ∈ ms, OkS x) (hu : A.units + 64 < cLine) (h : Q (.bool (!decide (ns = ms))) s) :
    wpAny (model prog w) A (compareOp .NotEq (.ref a) (.ref b)) Q E s :=
  ne_dataH_same (reads_newData ha (carriedS hi)) (reads_newData hb (carriedS hj)) (shapedS _ ok) (shapedS _ ok2) hu (SeqAt.noMix_of_shape (.list .str) rfl _ _ (list_map_has fun _ => rfl) (list_map_has fun _ => rfl)) (by rw [sameLS]; exact h)
end
theorem okS_tok (q : Bool) (c : Nat) (h : c < 1114112) : ∀ d ∈ tok q c, d < 1114112 := by
  intro d
  unfold tok
  repeat' split
  all_goals (simp only [List.mem_cons, List.not_mem_nil, or_false]; omega)
theorem okS_esc (v : Str) (q : Bool) (h : OkS v) : OkS (escS v q) := by
  intro d hd
  have hd : d ∈ v.cps.toList.flatMap (tok q) := hd
  obtain ⟨c, hc, hd⟩ := List.mem_flatMap.mp hd
  exact okS_tok q c (h c hc) d hd
theorem okS_wr : ∀ (fs : List Bool) (v : Str), OkS v → OkS (wr v fs)
  | [], _, h => h
  | q :: r, v, h => okS_wr r (escS v q) (okS_esc v q h)
theorem okS_app {a b : Str} (ha : OkS a) (hb : OkS b) : OkS (a ++ b) := by
  intro d hd
  rw [Str.cps_append, Array.toList_append] at hd
  rcases List.mem_append.mp hd with hd | hd
  · exact ha d hd
  · exact hb d hd
end Mine
end
section
open PySem PySem.W PyProof.Rows PySem.Spec PySem.Calls PyProof.V
namespace Mine
section
variable {prog : Program} {w : World} {A : Around} {E : Value → Shared → Prop} {s : Shared} {env : Env} {h₀ : Heap} {x : Str} {body : List Stmt} {Q : Flow → Shared → Prop}
theorem iterR {r : Addr} {b : Int} {t u v : Tok} {n : Nat} {m₀ : Str → Option Value} {news : List (Addr × Obj)} (J : Nat → (Str → Option Value) → List (Addr × Obj) → Prop)
    (hh : A.handled = none) (hr : IsRange s.heap r 0 b 1 t u v) (hb : b = ((n : Nat) : Int)) (hn : n ≤ 1000000) (F : Fr h₀ env.locals s.heap m₀) (N : News h₀ env.locals s.heap news) (hj : J 0 m₀ news)
    (turn : ∀ i u m₁ news₁ h tk own I, i < n → J i m₁ news₁ → (∀ p ∈ news₁, p.1 ≠ I) → (∀ p ∈ own, p.1 = I) →
      Fr h₀ env.locals h (fun y => if y = x then some (.int ((i : Nat) : Int) u) else m₁ y) → News h₀ env.locals h (news₁ ++ own) →
      wpAny (model prog w) A (execs body env) (TP h₀ env.locals I own (J (i + 1)) { s with heap := h, toks := tk } Q) E { s with heap := h, toks := tk })
    (done : ∀ m₁ news₁ h tk, J n m₁ news₁ → Fr h₀ env.locals h m₁ → News h₀ env.locals h news₁ → Q .next { s with heap := h, toks := tk }) :
    wpAny (model prog w) A (pyIter (.ref r)) (fun it s₂ => LoopAtV prog w A h₀ env x body Q E it s₂) E s := by
  subst hb
  refine wpAny_pyIter_range hr (small_one (by omega) (by omega) (by omega) (by omega)) ?_
  have W := LCg.range_walks (prog := prog) (w := w) (I := s.heap.objs.size) hh 0 n
  refine ⟨_, _, _, n, _, _, m₀, news, J, rfl, W, ?_, ?_, ?_, ?_, F.push _, (fun p hp => ⟨Heap.get?_push_of_some _ (N p hp).1, (N p hp).2⟩), hj, ?_, ?_⟩
  · intro hm
    exact absurd F.ns.lt ((List.mem_singleton.mp hm) ▸ Nat.lt_irrefl _)
  · intro b hb
    rw [List.mem_singleton.mp hb]
    exact next_is_new F
  · intro p hp hI
    exact absurd (Heap.lt_size (N p hp).1) ((List.mem_singleton.mp hI) ▸ Nat.lt_irrefl _)
  · show IsRangeIter _ _ _ _ _
    rw [show Builtin.Range.rangeSize 0 ((n : Nat) : Int) 1 = ((n : Nat) : Int) by have := rangeSize_nat 0 ((n : Nat) : Int); rw [this]; omega]
    have : IsRangeIter (s.heap.push { cls := .type "range_iterator", data := .fields #[rawInt 0, rawInt ((n : Nat) : Int), rawInt 1] }) s.heap.objs.size 0 ((n : Nat) : Int) 1 := Heap.get?_push_size _ rfl
    simpa using this
  · rintro i _ m₁ news₁ s₁ own ⟨hh', tk', rfl⟩ hin ⟨u, rfl⟩ hJ hoff hfp hat hall hst F₁ N₁
    rw [Int.zero_add] at F₁
    refine wpAny_mono (turn i u m₁ news₁ hh' tk' own s.heap.objs.size hin hJ (fun p hp e => hoff p hp (List.mem_singleton.mpr e)) (fun p hp => List.mem_singleton.mp (hfp p hp)) F₁ (news_swap N₁)) (fun f s₂ p => ?_) fun _ _ e => e
    have fin : (∃ h' tk m' news', s₂ = { ({ s with heap := hh', toks := tk' } : Shared) with heap := h', toks := tk } ∧ Fr h₀ env.locals h' m' ∧ News h₀ env.locals h' (news' ++ own) ∧ (∀ p ∈ news', p.1 ≠ s.heap.objs.size) ∧ J (i + 1) m' news') →
          LoopStepU h₀ env.locals [s.heap.objs.size] own (J (i + 1)) { s with heap := hh', toks := tk' } .next s₂ := by
      rintro ⟨h', tk, m', news', e, F', N', hn, hm⟩
      exact ⟨rfl, h', tk, m', news', e, F', news_swap N', fun p hp hI => hn p hp (List.mem_singleton.mp hI), hm⟩
    cases f with
    | ret v => exact .ret p
    | brk => exact .brk p
    | next => exact .next (fin p)
    | cont => exact .cont (fin p)
  · rintro h' tk m' news' F' N' _ hJ
    exact done m' news' h' tk hJ F' N'
def TF (h₀ : Heap) (L : Addr) (nw : List (Addr × Obj)) (Jn : (Str → Option Value) → Prop) (s₁ : Shared) (Q : Flow → Shared → Prop) (f : Flow) (s₂ : Shared) : Prop :=
  match f with
  | .ret v => Q (.ret v) s₂
  | .brk => Q .next s₂
  | _ => ∃ h' tk m', s₂ = { s₁ with heap := h', toks := tk } ∧ Fr h₀ L h' m' ∧ News h₀ L h' nw ∧ Jn m'
theorem tf_next {L : Addr} {nw : List (Addr × Obj)} {Jn : (Str → Option Value) → Prop} {s₁ : Shared} {h' : Heap} {tk : Nat} {m' : Str → Option Value}
    (F : Fr h₀ L h' m') (N : News h₀ L h' nw) (hj : Jn m') : TF h₀ L nw Jn s₁ Q .next { s₁ with heap := h', toks := tk } := ⟨h', tk, m', rfl, F, N, hj⟩
theorem tf_ret {L : Addr} {nw : List (Addr × Obj)} {Jn : (Str → Option Value) → Prop} {s₁ s₂ : Shared} {v : Value} (h : Q (.ret v) s₂) : TF h₀ L nw Jn s₁ Q (.ret v) s₂ := h
theorem tf_tp {L I : Addr} {news own : List (Addr × Obj)} {Jn : (Str → Option Value) → Prop} {s₁ : Shared} {f : Flow} {s₂ : Shared} (off : ∀ p ∈ news, p.1 ≠ I)
    (h : TF h₀ L (news ++ own) Jn s₁ Q f s₂) : TP h₀ L I own (fun m nw => Jn m ∧ nw = news) s₁ Q f s₂ := by
  cases f with
  | ret v => exact h
  | brk => exact h
  | next => obtain ⟨h', tk, m', e, F, N, hj⟩ := h; exact ⟨h', tk, m', news, e, F, N, off, hj, rfl⟩
  | cont => obtain ⟨h', tk, m', e, F, N, hj⟩ := h; exact ⟨h', tk, m', news, e, F, N, off, hj, rfl⟩
theorem iterRF {r : Addr} {b : Int} {t u v : Tok} {n : Nat} {m₀ : Str → Option Value} {news : List (Addr × Obj)} (J : Nat → (Str → Option Value) → Prop)
    (hh : A.handled = none) (hr : IsRange s.heap r 0 b 1 t u v) (hb : b = ((n : Nat) : Int)) (hn : n ≤ 1000000) (F : Fr h₀ env.locals s.heap m₀) (N : News h₀ env.locals s.heap news) (hj : J 0 m₀)
    (turn : ∀ i u m₁ h tk own, i < n → J i m₁ → Fr h₀ env.locals h (fun y => if y = x then some (.int ((i : Nat) : Int) u) else m₁ y) → News h₀ env.locals h (news ++ own) →
      wpAny (model prog w) A (execs body env) (TF h₀ env.locals (news ++ own) (J (i + 1)) { s with heap := h, toks := tk } Q) E { s with heap := h, toks := tk })
    (done : ∀ m₁ h tk, J n m₁ → Fr h₀ env.locals h m₁ → News h₀ env.locals h news → Q .next { s with heap := h, toks := tk }) :
    wpAny (model prog w) A (pyIter (.ref r)) (fun it s₂ => LoopAtV prog w A h₀ env x body Q E it s₂) E s :=
  iterR (fun i m nw => J i m ∧ nw = news) hh hr hb hn F N ⟨hj, rfl⟩
    (fun i u m₁ news₁ h tk own I hi hJ off hown F₁ N₁ => by
      obtain ⟨hJ, rfl⟩ := hJ
      exact wpAny_mono (turn i u m₁ h tk own hi hJ F₁ N₁) (fun f s₂ p => tf_tp off p) fun _ _ e => e)
    (fun m₁ news₁ h tk hJ F₁ N₁ => by
      obtain ⟨hJ, rfl⟩ := hJ
      exact done m₁ h tk hJ F₁ N₁)
theorem iterLF {l : Addr} {vs : List Value} {m₀ : Str → Option Value} {news : List (Addr × Obj)} (J : Nat → (Str → Option Value) → Prop)
    (hh : A.handled = none) (hls : s.heap.IsList l vs.toArray) (hlL : l ≠ env.locals) (F : Fr h₀ env.locals s.heap m₀) (N : News h₀ env.locals s.heap news) (hj : J 0 m₀)
    (turn : ∀ i v m₁ h tk own, vs[i]? = some v → J i m₁ → Fr h₀ env.locals h (fun y => if y = x then some v else m₁ y) → News h₀ env.locals h (news ++ own) →
      wpAny (model prog w) A (execs body env) (TF h₀ env.locals (news ++ own) (J (i + 1)) { s with heap := h, toks := tk } Q) E { s with heap := h, toks := tk })
    (done : ∀ m₁ h tk, J vs.length m₁ → Fr h₀ env.locals h m₁ → News h₀ env.locals h news → Q .next { s with heap := h, toks := tk }) :
    wpAny (model prog w) A (pyIter (.ref l)) (fun it s₂ => LoopAtV prog w A h₀ env x body Q E it s₂) E s :=
  iterL (fun i m nw => J i m ∧ nw = news) hh hls hlL F N ⟨hj, rfl⟩
    (fun i v m₁ news₁ h tk own I hi hJ off hown _ F₁ N₁ => by
      obtain ⟨hJ, rfl⟩ := hJ
      exact wpAny_mono (turn i v m₁ h tk own hi hJ F₁ N₁) (fun f s₂ p => tf_tp off p) fun _ _ e => e)
    (fun m₁ news₁ h tk hJ F₁ N₁ => by
      obtain ⟨hJ, rfl⟩ := hJ
      exact done m₁ h tk hJ F₁ N₁)
end
end Mine
end
section
open PySem PySem.W PyProof.Rows PyProof.Rows.LSm
namespace Mine
local macro_rules | `(tactic| cell_enter) => `(tactic| (refine' code_defC ?k1 ?k2 ?k3 ?k4 ?k5 ?kA ?kF ?kK ?k6 ?k7 ?k8 ?k9 ?kB ?kD ?_ ?c2 ?c3 ?c4; (case kA => exact rfl); (case kF => exact rfl); (case kK => assumption); (case k1 => k_asm); (case k2 => k_asm); (case k3 => k_asm); (case k4 => k_asm); (case k5 => k_asm); (case k6 => k_is); (case k7 => k_is); (case k8 => ktr_room); (case k9 => exact BindsTo.of_eq rfl); (case kB => exact rfl); (case kD => decide +kernel); (case c2 => exact rfl); (case c3 => exact rfl); (case c4 => exact rfl); k_whole; intro g' L' h' tk' cells' FG' F' N' Y' B' X' T' l1; (try k_lt l1); k_cells Y'; (try simp only [List.cons_append, List.nil_append] at N'); (try dsimp only); (try k_lift B'); (try k_fold)))
theorem strs_of : ∀ {ys : List Value} {g : Nat → Str}, (∀ (i : Nat) y, ys[i]? = some y → ∃ t, y = Value.str (g i) t) → StrsAre ys ((List.range ys.length).map g)
  | [], _, _ => .nil
  | y :: r, g, h => by
    obtain ⟨t, e⟩ := h 0 y rfl
    have ih := strs_of (ys := r) (g := fun i => g (i + 1)) fun i y' hy => h (i + 1) y' (by simpa using hy)
    rw [e, List.length_cons, List.range_succ_eq_map, List.map_cons, List.map_map]
    exact .cons _ t ih
theorem pile_ok {v : Str} (h : OkS v) (fs : List Bool) (i : Nat) : ∀ x ∈ pileS v fs i, OkS x := by
  intro x hx
  obtain ⟨k, _, rfl⟩ := List.mem_map.mp hx
  exact okS_wr _ _ h
theorem ne_strs_same {prog : Program} {w : World} {A : Around} {E : Value → Shared → Prop} {s : Shared} {a b : Addr} {xs ys : List Value} {ns : List Str} {Q : Value → Shared → Prop} (ha : s.heap.IsList a xs.toArray) (hb : s.heap.IsList b ys.toArray) (hi : StrsAre xs ns) (hj : StrsAre ys ns) (ok : ∀ x ∈ ns, OkS x) (hu : A.units + 64 < cLine) (h : Q (.bool false) s) :
    wpAny (model prog w) A (compareOp .NotEq (.ref a) (.ref b)) Q E s := ne_strs ha hb hi hj ok ok hu (by simpa using h)
theorem len_N {prog : Program} {w : World} {A : Around} {E : Value → Shared → Prop} {s : Shared} {l : Addr} {vs : List Value} {Q : Value → Shared → Prop} (hl : s.heap.IsList l vs.toArray) (hn : vs.length ≤ 1000000) (h : Q (.int (vs.length : Nat) (s.toks + 1)) { s with toks := s.toks + 1 + 1 }) : wpAny (model prog w) A (call (.builtin "len") [.ref l]) Q E s :=
  PyProof.Rows.len_list hl (by simp; omega) h
theorem pile_len (v : Str) (fs : List Bool) (i : Nat) : (pileS v fs i).length = i + 1 := by simp [pileS]
theorem item_N {prog : Program} {w : World} {A : Around} {E : Value → Shared → Prop} {s : Shared} {value slice : Expr} {l : Addr} {vs : List Value} {i : Nat} {u : Tok} {x : Value} {Q : Value → Shared → Prop} (hl : s.heap.IsList l vs.toArray)
    (hb : i ≤ 1000000) (hx : vs[i]? = some x) (h : Q x s)
    (hs : subscripted slice false (.ref l) (.int ((i : Nat) : Int) u) = operate [.ref l, .int ((i : Nat) : Int) u] (getItem (.ref l) (.int ((i : Nat) : Int) u))) (hg : ∀ r, letTemporaryGo value (.ref l) r = pure ()) :
    wpAny (model prog w) A (subscriptTail value slice (.ref l) (.int ((i : Nat) : Int) u)) Q E s :=
  PyProof.Rows.item_list hl (by omega) (by omega) (by simpa using hx) h hs hg
theorem pile_get (v : Str) (fs : List Bool) (n i : Nat) (h : i < n + 1) : (pileS v fs n)[i]? = some (wr v (fs.take i)) := by simp [pileS, h]
theorem bne_no {x y : Str} : ¬ ((x == y) != decide (x = y)) = true := by
  by_cases h : x = y
  · subst h; simp
  · simp [h]
theorem news_sub {h₀ h : Heap} {L : Addr} {X Y : List (Addr × Obj)} (N : News h₀ L h Y) (hs : ∀ p ∈ X, p ∈ Y) : News h₀ L h X := fun p hp => N p (hs p hp)
theorem news_cons {h₀ h : Heap} {L : Addr} {p : Addr × Obj} {Y : List (Addr × Obj)} (N : News h₀ L h Y) (hm : p ∈ Y) : News h₀ L h (p :: Y) := fun q hq => by
  rcases List.mem_cons.mp hq with e | hq
  · rw [e]; exact N p hm
  · exact N q hq
theorem news_cons2 {h₀ h : Heap} {L : Addr} {p q : Addr × Obj} {Y : List (Addr × Obj)} (N : News h₀ L h Y) (hm : p ∈ Y) (hm2 : q ∈ Y) : News h₀ L h (p :: q :: Y) := news_cons (news_cons N hm2) (List.mem_cons_of_mem _ hm)
local macro_rules | `(tactic| ktr_rel) => `(tactic| repeat' (first | (k_unfold; (try dsimp only)) | walk1 | (dsimp only; walk1) | (leave1; try dsimp only) | fail "no step"))
local macro_rules | `(tactic| walk_at "CompEnd") => `(tactic| refine unhold ?_)
local macro_rules | `(tactic| ktr_call $c $d) => `(tactic| (refine' $c _ _ _ _ _ _ _ _ _ _ _ _ _ _ _ _ _ ?k1 ?k2 ?k3 ?k4 ?k5 ?kK ?kp ?kd ?ku ?kR; (case k1 => k_asm); (case k2 => k_asm); (case k3 => k_asm); (case k4 => first | k_asm | (refine' news_cons ?kN ?km; (case kN => k_asm); (case km => k_mem)) | (refine' news_cons2 ?kN ?km ?kl; (case kN => k_asm); (case km => k_mem); (case kl => k_mem))); (case k5 => k_asm); (case kK => exact rfl); (case kp => exact $d); (case kd => ktr_room); (case ku => ktr_units)))
local macro_rules | `(tactic| walk_at "subscriptTail Name Slice ref ref") => `(tactic| (k_here; (with_reducible show wpAny _ _ (subscriptTail _ (PySem.Expr.Slice none (some _) none _) (Value.ref _) (Value.ref _)) _ _ _); k_dflt (refine' sl_up ?F ?N ?m ?p ?h0 ?z ?_ ?s ?t; (case F => k_asm); (case N => k_asm); (case m => k_mem); (case p => kmk_part); (case h0 => omega); (case z => omega); (case s => with_unfolding_all rfl); (case t => kmk_pure)); intro D' h' F' N' l1; (try k_lt l1); (try k_sweep)))
local macro_rules | `(tactic| walk_at "compareOp NotEq ref ref") => `(tactic| (k_here; k_dflt first | (refine' ne_strs_same ?k1 ?k2 ?k3 ?k4 ?k5 ?k6 ?_; (case k1 => is_list); (case k2 => is_list); (case k3 => assumption); (case k4 => assumption); (case k5 => assumption); (case k6 => ke_room)) | (refine' ne_strs ?k1 ?k2 ?k3 ?k4 ?k5 ?k6 ?k7 ?_; (case k1 => is_list); (case k2 => is_list); (case k3 => assumption); (case k4 => assumption); (case k5 => assumption); (case k6 => assumption); (case k7 => ke_room))))
local macro_rules | `(tactic| walk_at "exec For Name Call cons nil") => `(tactic| (k_here; (rename Fr _ _ _ _ => lF'); k_dflt (refine forV lF' (by rfl) (by rfl) (by passes_own) (by intro _; rfl) ?_)))
local macro_rules | `(tactic| walk_at "pyIter ref") => `(tactic| refine unhold ?_)
local macro_rules | `(tactic| walk_at "call builtin:len") => `(tactic| (k_here; k_dflt (refine' len_N ?k1 ?k2 ?_; (case k1 => is_list); (case k2 => omega))))
local macro_rules | `(tactic| walk_at "call type:range") => `(tactic| ((rename Fr _ _ _ _ => F'); (rename News _ _ _ _ => N'); (with_unfolding_all refine range1_rows F' N' ?_; intro _ _ _ _ _ _ _ _ _)))
local macro_rules | `(tactic| walk_at "subscriptTail Name Name ref int") => `(tactic| (k_here; k_dflt (refine' item_N ?l ?b ?x ?_ ?s ?g; (case x => assumption); (case l => (rename News _ _ _ _ => hNN; exact isListN hNN (by k_mem))); (case b => omega); (case s => with_unfolding_all rfl); (case g => (intro _; with_unfolding_all rfl)))))
local macro_rules | `(tactic| walk_at "CompSrc") => `(tactic| (k_here; k_dflt (refine' LCg.CompSrc.range ?k1 ?k2 ?k3 ?k4 ?k5 ?k6 ?k7 ?_; (case k1 => rfl); (case k2 => k_asm); (case k3 => k_asm); (case k4 => assumption); (case k5 => first | exact small_one (by omega) (by omega) (by omega) (by omega) | decide); (case k6 => first | exact rangeSize_nat _ _ | rfl); (case k7 => (rw [PySem.sizeLine_eq]; omega))); intro g'; refine unhold ?_))
theorem agree_c {w mean mg mb rest} (v : Str) (t : Tok) (lf : Addr) (fs : List Bool) (n : Nat) (u : Str) (tu : Tok) (lg : Addr) (gs : List Bool) (n2 : Nat) : Claim 14 w mean mg mb 67 ((lf, W.listOf (bls fs).toArray n) :: (lg, W.listOf (bls gs).toArray n2) :: rest) (fs.length ≤ 4 ∧ gs.length ≤ 4 ∧ (∀ k, (wr v (fs.take k)).length ≤ 900) ∧ (∀ k, (wr u (gs.take k)).length ≤ 900) ∧ OkS v ∧ OkS u) [.str v t, .ref lf, .str u tu, .ref lg] (fun _ h₀ L m s Q =>
     ∀ h' tk', Fr h₀ L h' m → News h₀ L h' rest → Q (.bool true) {s with heap := h', toks := tk'}) := by
  dsimp only [Claim, PG, KF, VW, LS]; k_fill; intros; rename_i hret
  rename (_ ∧ _ ≤ 4 ∧ _) => hpre
  obtain ⟨hfs, hgs, hv, hu, hvo, huo⟩ := hpre
  have hB : BoolsAre (bls fs) fs := bls_are fs
  have hB2 : BoolsAre (bls gs) gs := bls_are gs
  refine wpAny_call ?_
  k_dflt cell_enter
  k_steps
  ktr_call (pile_c (mean := mean) (mg := mg) (mb := mb) (rest := _) v _ lf fs n) ⟨hv, by omega⟩
  intro l9 h9 tk9 vs9 n9 S9 F9 N9
  try dsimp only
  k_steps
  ktr_call (pile_c (mean := mean) (mg := mg) (mb := mb) (rest := _) u _ lg gs n2) ⟨hu, by omega⟩
  intro l8 h8 tk8 vs8 n8 S8 F8 N8
  try dsimp only
  k_steps
  refine hold ?_
  refine compR (fun i y => ∃ t, y = .str (wr v (fs.take i)) t) ?_ ?_
  · intro i t I oI C oC D m₂ ys h tk E' hi hC hx F N off ne
    have hi' : ((0 : Int) + (i : Int)).toNat = i := by omega
    simp only [LCg.Off3] at off
    ktr_rel
    ktr_call (written_c (mean := mean) (mg := mg) (mb := mb) (rest := _) v _ _ (fs.take ((0 : Int) + (i : Int)).toNat) 0) ⟨by simp; omega, hv 0⟩
    intro t9 h9 tk9 F9 N9
    rw [hi'] at *
    try dsimp only
    ktr_rel
    refine hold ?_
    refine LCg.CompEnd.intro (by k_asm) (by k_asm) _ (by kcf_all) (by first | assumption | (simp only [LCg.Off3, and_true]; done) | (simp only [LCg.Off3, and_true]; assumption)) True.intro ⟨rfl, _, by rw [hi']⟩
  · intro ys hlen hys
    have hS := strs_of hys
    rw [hlen, show ((fs.length : Int) + 1 - 0).toNat = fs.length + 1 by omega] at hS
    have hS : StrsAre ys (pileS v fs fs.length) := hS
    have hok := pile_ok hvo fs fs.length
    have hok2 := pile_ok huo gs gs.length
    ktr_rel
    refine hold ?_
    refine compR (fun i y => ∃ t, y = .str (wr u (gs.take i)) t) ?_ ?_
    · intro i t I oI C oC D m₂ ys h tk E' hi hC hx F N off ne
      have hi' : ((0 : Int) + (i : Int)).toNat = i := by omega
      simp only [LCg.Off3] at off
      ktr_rel
      ktr_call (written_c (mean := mean) (mg := mg) (mb := mb) (rest := _) u _ _ (gs.take ((0 : Int) + (i : Int)).toNat) 0) ⟨by simp; omega, hu 0⟩
      intro t9 h9 tk9 F9 N9
      try dsimp only
      ktr_rel
      refine hold ?_
      refine LCg.CompEnd.intro (by k_asm) (by k_asm) _ (by kcf_all) (by first | assumption | (simp only [LCg.Off3, and_true]; done) | (simp only [LCg.Off3, and_true]; assumption)) True.intro ⟨rfl, _, by rw [hi']⟩
    · intro zs hlen2 hzs
      have hS2 := strs_of hzs
      rw [hlen2, show ((gs.length : Int) + 1 - 0).toNat = gs.length + 1 by omega] at hS2
      have hS2 : StrsAre zs (pileS u gs gs.length) := hS2
      have hl9 := strs_len S9
      have hl8 := strs_len S8
      rw [pile_len] at hl8 hl9
      ktr_rel
      refine hold ?_
      rename News _ _ _ _ => NP
      rename Fr _ _ _ _ => FP
      refine iterRF (n := fs.length + 1) (J := fun i m => m (Str.ofString "first") = some (.ref l9) ∧ m (Str.ofString "second") = some (.ref l8)) rfl (by assumption) (by omega) (by omega) FP NP ⟨rfl, rfl⟩ ?_ ?_
      · clear FP NP
        rintro i ti m₁ h tk own hi ⟨h1, h2⟩ FP NP
        replace FP := frN FP (a := Str.ofString "first") (v := .ref l9) (by rw [if_neg (by decide)]; exact h1)
        replace FP := frN FP (a := Str.ofString "second") (v := .ref l8) (by rw [if_neg (by decide), if_neg (by decide)]; exact h2)
        ktr_rel
        refine hold ?_
        rename News _ _ _ _ => NP
        rename Fr _ _ _ _ => FP
        refine iterRF (n := gs.length + 1) (J := fun j m => m (Str.ofString "first") = some (.ref l9) ∧ m (Str.ofString "second") = some (.ref l8) ∧ ∃ t, m (Str.ofString "high") = some (.int ((i : Nat) : Int) t)) rfl (by assumption) (by omega) (by omega) FP NP ⟨rfl, rfl, _, rfl⟩ ?_ ?_
        · clear FP NP
          rintro j tj m₁ h tk own2 hj ⟨h1, h2, th, h3⟩ FP NP
          replace FP := frN FP (a := Str.ofString "first") (v := .ref l9) (by rw [if_neg (by decide)]; exact h1)
          replace FP := frN FP (a := Str.ofString "second") (v := .ref l8) (by rw [if_neg (by decide), if_neg (by decide)]; exact h2)
          replace FP := frN FP (a := Str.ofString "high") (v := .int ((i : Nat) : Int) th) (by rw [if_neg (by decide), if_neg (by decide), if_neg (by decide)]; exact h3)
          rw [List.append_assoc] at NP
          obtain ⟨ta, hta⟩ := strs_get S9 (pile_get v fs fs.length i hi)
          obtain ⟨tb, htb⟩ := strs_get S8 (pile_get u gs gs.length j hj)
          ktr_rel
          ktr_call (meet_c (mean := mean) (mg := mg) (mb := mb) (rest := _) v _ _ (fs.take ((i : Nat) : Int).toNat) 0 u _ _ (gs.take ((j : Nat) : Int).toNat) 0) ⟨by simp; omega, by simp; omega, hv 0, hu 0⟩
          intro h9 tk9 F9 N9
          try dsimp only
          ktr_rel
          · rename ((_ != _) = true) => hne
            exact absurd hne bne_no
          · rename News _ _ _ _ => N9
            refine tf_next (by assumption) (news_sub N9 ?_) ⟨rfl, rfl, _, rfl⟩
            intro p hp
            simp only [List.cons_append, List.append_assoc] at hp ⊢
            repeat (first | exact hp | apply List.Mem.tail)
        · clear FP NP
          rintro m₁ h tk ⟨h1, h2, th, h3⟩ FP NP
          try dsimp only
          ktr_rel
          exact tf_next FP NP ⟨h1, h2⟩
      · clear FP NP
        rintro m₁ h tk ⟨h1, h2⟩ FP NP
        try dsimp only
        ktr_rel
        rename News _ _ _ _ => N9
        refine hret _ _ (by assumption) (news_sub N9 ?_)
        intro p hp
        repeat (first | exact hp | apply List.Mem.tail)
end Mine
end
section
open PySem PySem.W PyProof.Rows PyProof.Rows.LSm
namespace Mine
section
variable {prog : Program} {w : World} {A : Around} {E : Value → Shared → Prop} {s : Shared} {h₀ : Heap} {L l b : Addr} {m : Str → Option Value} {news : List (Addr × Obj)} {value slice : PySem.Expr} {vu : Value} {y : Int} {Q : Value → Shared → Prop} {vs ws : List Value} {n : Nat}
theorem slV_up (F : Fr h₀ L s.heap m) (N : News h₀ L s.heap news) (hm : (l, W.listOf vs.toArray n) ∈ news) (pu : IsPart vu (some y)) (h0 : 0 ≤ y) (hz : vs.length ≤ 1000000)
    (h : ∀ D h', Fr h₀ L h' m → News h₀ L h' ((D, W.listOf (vs.take y.toNat).toArray 0) :: news) → (∀ p ∈ news, p.1 < D) → Q (.ref D) { s with heap := h' })
    (hs : subscripted slice false (.ref l) (.ref s.heap.objs.size) = operate [.ref s.heap.objs.size, .ref l] (getItem (.ref l) (.ref s.heap.objs.size)) := by with_unfolding_all rfl) (ht : ∀ r, letTemporaryGo value (.ref l) r = pure () := by kmk_pure) :
    wpAny (model prog w) A (subscriptTail value slice (.ref l) (.ref s.heap.objs.size)) Q E { s with heap := s.heap.push { cls := .type "slice", data := .fields #[.none, vu, .none] } } := by
  refine kms_slice_lit F N (isListN N hm) .none pu (pick_up _ h0) (fun D h' F' N' l1 => h D h' F' ?_ l1) hs ht ?_
  · exact N'
  · show vs.length ≤ 2 ^ 24
    omega
theorem slV_from (F : Fr h₀ L s.heap m) (N : News h₀ L s.heap news) (hm : (l, W.listOf vs.toArray n) ∈ news) (pu : IsPart vu (some y)) (h0 : 0 ≤ y) (hz : vs.length ≤ 1000000)
    (h : ∀ D h', Fr h₀ L h' m → News h₀ L h' ((D, W.listOf (vs.drop y.toNat).toArray 0) :: news) → (∀ p ∈ news, p.1 < D) → Q (.ref D) { s with heap := h' })
    (hs : subscripted slice false (.ref l) (.ref s.heap.objs.size) = operate [.ref s.heap.objs.size, .ref l] (getItem (.ref l) (.ref s.heap.objs.size)) := by with_unfolding_all rfl) (ht : ∀ r, letTemporaryGo value (.ref l) r = pure () := by kmk_pure) :
    wpAny (model prog w) A (subscriptTail value slice (.ref l) (.ref s.heap.objs.size)) Q E { s with heap := s.heap.push { cls := .type "slice", data := .fields #[vu, .none, .none] } } := by
  refine kms_slice_lit F N (isListN N hm) pu .none (pick_from _ h0) (fun D h' F' N' l1 => h D h' F' ?_ l1) hs ht ?_
  · exact N'
  · show vs.length ≤ 2 ^ 24
    omega
theorem addV {n2 : Nat} (F : Fr h₀ L s.heap m) (N : News h₀ L s.heap news) (hm : (l, W.listOf vs.toArray n) ∈ news) (hm2 : (b, W.listOf ws.toArray n2) ∈ news) (hz : vs.length ≤ 1000000) (hz2 : ws.length ≤ 1000000)
    (h : ∀ D h', Fr h₀ L h' m → News h₀ L h' ((D, W.listOf (vs ++ ws).toArray 0) :: news) → (∀ p ∈ news, p.1 < D) → Q (.ref D) { s with heap := h' }) :
    wpAny (model prog w) A (binaryOp .Add (.ref l) (.ref b)) Q E s := by
  refine add_arrays F N (isListN N hm) (isListN N hm2) (fun h' F' N' => h _ h' F' N' fun p hp => Heap.lt_size (N p hp).1) ?_
  show vs.length + ws.length ≤ 2 ^ 24
  omega
end
theorem ints_drop : ∀ {vs : List Value} {ns : List Int} (k : Nat), IntsAre vs ns → IntsAre (vs.drop k) (ns.drop k)
  | _, _, 0, h => h
  | _, _, k + 1, .nil => .nil
  | _, _, k + 1, .cons a t r => by simpa using ints_drop k r
theorem ints_app : ∀ {vs ws : List Value} {ns ms : List Int}, IntsAre vs ns → IntsAre ws ms → IntsAre (vs ++ ws) (ns ++ ms)
  | _, _, _, _, .nil, h => h
  | _, _, _, _, .cons a t r, h => .cons a t (ints_app r h)
theorem okS_piece (n : Int) : OkS (pieceS n) := by
  unfold pieceS
  split
  · have h : ∀ j : Fin 13, ∀ c ∈ (pcs.getD j.1 Str.empty).cps.toList, c < 1114112 := by decide
    rename (n.fmod 14 < 13) => hl
    have h0 := Int.fmod_nonneg_of_pos n (show (0 : Int) < 14 by decide)
    exact h ⟨(n.fmod 14).toNat, by omega⟩
  · intro c hc
    have h0 := Int.fmod_nonneg_of_pos (n.fdiv 14) (show (0 : Int) < 1112064 by decide)
    have h1 := Int.fmod_lt_of_pos (n.fdiv 14) (show (0 : Int) < 1112064 by decide)
    have e : c = (if (n.fdiv 14).fmod 1112064 < 55296 then (n.fdiv 14).fmod 1112064 else (n.fdiv 14).fmod 1112064 + 2048).toNat := by simpa using hc
    rw [e]
    split <;> omega
theorem okS_text (ns : List Int) : OkS (textS ns) := by
  have h : ∀ (ns : List Int) (tx : Str), OkS tx → OkS (ns.foldl (fun tx n => tx ++ pieceS n) tx) := by
    intro ns
    induction ns with
    | nil => intro tx h; exact h
    | cons a r ih => intro tx h; exact ih _ (okS_app h (okS_piece a))
  exact h ns Str.empty (by intro c hc; cases hc)
theorem wr_len (fs : List Bool) (h : fs.length ≤ 4) (v : Str) : (wr v fs).length ≤ 18 * v.length := by
  have h2 : (wr v fs).length = (v.cps.toList.flatMap (partL fs)).length := by rw [wr_flat]; rfl
  rw [h2]
  have h3 : ∀ l : List Nat, (l.flatMap (partL fs)).length ≤ 18 * l.length := by
    intro l
    induction l with
    | nil => simp
    | cons a r ih =>
      have := part_len fs a h
      rw [List.flatMap_cons, List.length_append, List.length_cons]
      omega
  exact h3 v.cps.toList
theorem wr_wr (v : Str) (a b : List Bool) : wr (wr v a) b = wr v (a ++ b) := by unfold wr; rw [List.foldl_append]
theorem wr_app (fs : List Bool) (a b : Str) : wr (a ++ b) fs = wr a fs ++ wr b fs := by
  rw [str_eq_iff, wr_L, Str.cps_append, Array.toList_append, Str.cps_append, Array.toList_append, wrL_app, wr_L, wr_L]
end Mine
end
section
open PySem PySem.W PyProof.Rows PyProof.Rows.LSm
namespace Mine
local macro_rules | `(tactic| ktr_rel) => `(tactic| repeat' (first | (k_unfold; (try dsimp only)) | walk1 | (dsimp only; walk1) | (leave1; try dsimp only) | fail "no step"))
local macro_rules | `(tactic| ktr_call $c $d) => `(tactic| (refine hold ?_; refine' $c _ _ _ _ _ _ _ _ _ _ _ _ _ _ _ _ _ ?k1 ?k2 ?k3 ?k4 ?k5 ?kK ?kp ?kd ?ku ?kR; (case k1 => k_asm); (case k2 => k_asm); (case k3 => k_asm); (case k4 => first | k_asm | (refine' news_cons ?kN ?km; (case kN => k_asm); (case km => k_mem)) | (refine' news_cons2 ?kN ?km ?kl; (case kN => k_asm); (case km => k_mem); (case kl => k_mem))); (case k5 => k_asm); (case kK => exact rfl); (case kp => exact $d); (case kd => ktr_room); (case ku => ktr_units)))
local macro_rules | `(tactic| walk_at "subscriptTail Name Slice ref ref") => `(tactic| (k_here; k_dflt (first
  | (refine' slV_up ?F ?N ?m ?p ?h0 ?z ?_ ?s ?t; (case F => k_asm); (case N => k_asm); (case m => k_mem); (case p => kmk_part); (case h0 => omega); (case z => first | omega | exact Nat.le_of_ble_eq_true rfl); (case s => with_unfolding_all rfl); (case t => kmk_pure))
  | (refine' slV_from ?F ?N ?m ?p ?h0 ?z ?_ ?s ?t; (case F => k_asm); (case N => k_asm); (case m => k_mem); (case p => kmk_part); (case h0 => omega); (case z => first | omega | exact Nat.le_of_ble_eq_true rfl); (case s => with_unfolding_all rfl); (case t => kmk_pure))); intro D' h' F' N' l1; (try k_lt l1); (try k_sweep)))
local macro_rules | `(tactic| walk_at "subscriptTail List Slice ref ref") => `(tactic| walk_at "subscriptTail Name Slice ref ref")
local macro_rules | `(tactic| walk_at "call ref") => `(tactic| refine unhold ?_)
local macro_rules | `(tactic| walk_at "binaryOp Add ref ref") => `(tactic| refine unhold ?_)
theorem item_C {prog : Program} {w : World} {A : Around} {E : Value → Shared → Prop} {s : Shared} {value slice : Expr} {l : Addr} {vs : List Value} {k : Int} {u : Tok} {x : Value} {Q : Value → Shared → Prop} (hl : s.heap.IsList l vs.toArray)
    (h0 : 0 ≤ k) (hb : k ≤ 1000000) (hx : vs[k.toNat]? = some x) (h : Q x s)
    (hs : subscripted slice false (.ref l) (.int k u) = operate [.ref l, .int k u] (getItem (.ref l) (.int k u))) (hg : ∀ r, letTemporaryGo value (.ref l) r = pure ()) :
    wpAny (model prog w) A (subscriptTail value slice (.ref l) (.int k u)) Q E s :=
  PyProof.Rows.item_list hl h0 (by omega) (by simpa using hx) h hs hg
local macro_rules | `(tactic| walk_at "subscriptTail Name Constant ref int") => `(tactic| (k_here; k_dflt (refine' item_C ?l ?a ?b ?x ?_ ?s ?g; (case x => assumption); (case l => (rename News _ _ _ _ => hNN; exact isListN hNN (by k_mem))); (case a => decide); (case b => decide); (case s => with_unfolding_all rfl); (case g => (intro _; with_unfolding_all rfl)))))
theorem bls_take (k : Nat) (fs : List Bool) : List.take k (bls fs) = bls (fs.take k) := by simp [bls]
theorem bls_drop (k : Nat) (fs : List Bool) : List.drop k (bls fs) = bls (fs.drop k) := by simp [bls]
local macro_rules | `(tactic| walk_at "subscriptTail") => `(tactic| ((with_reducible show wpAny _ _ (subscriptTail (PySem.Expr.Tuple _ _ _) _ _ _) _ _ _); refine unhold ?_))
def ends : List Str := ["", "", "\"", "b"].map Str.ofString
theorem ends_len (j : Nat) : (ends.getD j Str.empty).length ≤ 1 := by
  rcases Nat.lt_or_ge j 4 with h | h
  · have : ∀ j : Fin 4, (ends.getD j.1 Str.empty).length ≤ 1 := by decide
    exact this ⟨j, h⟩
  · rw [List.getD_eq_getElem?_getD, List.getElem?_eq_none (show ends.length ≤ j from h)]; decide
theorem ends_ok (j : Nat) : OkS (ends.getD j Str.empty) := by
  rcases Nat.lt_or_ge j 4 with h | h
  · have : ∀ j : Fin 4, ∀ c ∈ (ends.getD j.1 Str.empty).cps.toList, c < 1114112 := by decide
    exact this ⟨j, h⟩
  · rw [List.getD_eq_getElem?_getD, List.getElem?_eq_none (show ends.length ≤ j from h)]; intro c hc; cases hc
theorem law_ok {begun tail : Str} {fs gs : List Bool} {g : Nat} (hf4 : fs.length ≤ 4) (hto : OkS begun) (heo : OkS tail) (htl : begun.length ≤ 48) (hel : tail.length ≤ 1) (hg : g ≤ fs.length) (hgs : gs.length = (fs.drop g).length) :
    fs.length ≤ 4 ∧ gs.length ≤ 4 ∧ (∀ k, (wr begun (fs.take k)).length ≤ 900) ∧ (∀ k, (wr (wr begun (fs.take g) ++ tail) (gs.take k)).length ≤ 900) ∧ OkS begun ∧ OkS (wr begun (fs.take g) ++ tail) := by
  rw [List.length_drop] at hgs
  refine ⟨hf4, by omega, fun k => ?_, fun k => ?_, hto, okS_app (okS_wr _ _ hto) heo⟩
  · have := wr_len (fs.take k) (by simp; omega) begun
    omega
  · rw [wr_app, wr_wr]
    have h1 := wr_len (fs.take g ++ gs.take k) (by simp; omega) begun
    have h2 := wr_len (gs.take k) (by simp; omega) tail
    have h3 := Str.length_append (wr begun (fs.take g ++ gs.take k)) (wr tail (gs.take k))
    omega
theorem wh_facts {dr : List Int} {x : List Int} (e : List.map (fun k' => Int.fmod k' (10 ^ Int.toNat 9)) (List.take 10 x) = dr) : (∀ a ∈ dr ++ [11, 6, 1].drop dr.length, 0 ≤ a ∧ a < 1000000000) ∧ 3 ≤ (dr ++ [(11 : Int), 6, 1].drop dr.length).length ∧ (dr ++ [(11 : Int), 6, 1].drop dr.length).length ≤ 10 := by
  have hl : dr.length ≤ 10 := by rw [← e]; simp; omega
  have hd : ∀ a ∈ dr, 0 ≤ a ∧ a < 1000000000 := by
    intro a ha
    rw [← e] at ha
    obtain ⟨k, _, rfl⟩ := List.mem_map.mp ha
    have e9 : (10 : Int) ^ Int.toNat 9 = 1000000000 := by decide
    rw [e9]
    exact ⟨Int.fmod_nonneg_of_pos _ (by decide), Int.fmod_lt_of_pos _ (by decide)⟩
  refine ⟨?_, ?_, ?_⟩
  · intro a ha
    rcases List.mem_append.mp ha with ha | ha
    · exact hd a ha
    · have := List.mem_of_mem_drop ha
      simp only [List.mem_cons, List.not_mem_nil, or_false] at this
      omega
  · simp; omega
  · simp; omega
theorem law_h : PySem.Challenge.rw_mg0011_03.Holds := by
  refine hd ?_
  k_go0
  all_goals try k_fold
  ktr_rel
  rename IntsAre _ (List.map _ _) => hI
  rename Fr _ _ _ _ => F1
  rename News _ _ _ _ => N1
  rename (List.length _ = List.length (List.map _ _)) => hL
  rename (List.length (List.take 10 _) = _) => hC
  rename ((List.length (List.take 10 _)) ≤ _) => hC2
  generalize hdr : List.map (fun k' => Int.fmod k' (10 ^ Int.toNat 9)) (List.take 10 _) = dr at *
  obtain ⟨hwv, hw3, hw10⟩ := wh_facts hdr
  obtain ⟨w2, hw2, hI2⟩ : ∃ w2, w2 = List.drop ((dr.length : Nat) : Int).toNat [Value.int 11 _, Value.int 6 _, Value.int 1 _] ∧ IntsAre w2 ([(11 : Int), 6, 1].drop dr.length) := ⟨_, rfl, ints_drop _ (.cons _ _ (.cons _ _ (.cons _ _ .nil)))⟩
  rw [← hw2] at N1
  clear hw2
  have hIw := ints_app hI hI2
  have hlw := hIw.length
  generalize hwh : dr ++ List.drop dr.length [(11 : Int), 6, 1] = wh at *
  have hl1 : ys.length ≤ 1000000 := by rw [List.length_append] at hlw; omega
  have hl2 : w2.length ≤ 1000000 := by rw [List.length_append] at hlw; omega
  refine hold ?_
  refine' addV F1 N1 ?p1 ?p2 hl1 hl2 ?_
  case p1 => k_mem
  case p2 => k_mem
  intro D1 h1 F2 N2 l2
  (try k_lt l2)
  ktr_rel
  have hId := ints_drop 2 hIw
  ktr_call (text_c (mean := _) (mg := _) (mb := _) (rest := _) _ _ _ 0 hId) (by simp; omega)
  intro tt h9 tk9 F9 N9
  have htl : (textS (List.drop 2 wh)).length ≤ 48 := by
    have := textS_len (List.drop 2 wh)
    rw [List.length_drop] at this
    omega
  have hto := okS_text (List.drop 2 wh)
  generalize textS (List.drop 2 wh) = begun at *
  obtain ⟨a0, ha0⟩ : ∃ a, wh[0]? = some a := ⟨wh[0]'(by omega), by simp⟩
  obtain ⟨a1, ha1⟩ : ∃ a, wh[1]? = some a := ⟨wh[1]'(by omega), by simp⟩
  have hv0 := hwv a0 (List.mem_of_getElem? ha0)
  have hv1 := hwv a1 (List.mem_of_getElem? ha1)
  obtain ⟨u0, hu0⟩ := hIw.get 0 a0 ha0
  obtain ⟨u1, hu1⟩ := hIw.get 1 a1 ha1
  replace hu0 : (ys ++ w2)[(0 : Int).toNat]? = some (Value.int a0 u0) := hu0
  replace hu1 : (ys ++ w2)[(1 : Int).toNat]? = some (Value.int a1 u1) := hu1
  generalize ys ++ w2 = vw at *
  try dsimp only
  ktr_rel
  ktr_call (flags_c (mean := _) (mg := _) (mb := _) (news := _) a0 _) hv0
  intro lf h8 tk8 fs nf hf1 hf4 F8 N8
  have hB : BoolsAre (bls fs) fs := bls_are fs
  have hBl : (bls fs).length = fs.length := by simp [bls]
  have hg0 := Int.fmod_nonneg_of_pos a1 (show (0 : Int) < (fs.length : Int) + 1 by omega)
  have hg1 := Int.fmod_lt_of_pos a1 (show (0 : Int) < (fs.length : Int) + 1 by omega)
  try dsimp only
  ktr_rel
  rename News _ _ _ _ => N7
  rw [bls_take] at N7
  ktr_call (written_c (mean := _) (mg := _) (mb := _) (rest := _) begun _ _ (fs.take (a1.fmod ((fs.length : Int) + 1)).toNat) 0) ⟨by simp; omega, by omega⟩
  intro t7 h7 tk7 F7 N7
  have hwl := wr_len (fs.take (a1.fmod ((fs.length : Int) + 1)).toNat) (by simp; omega) begun
  try dsimp only
  ktr_rel
  refine hold ?_
  rename News _ _ _ _ => N6
  k_dflt (refine kba_turn (value' := PySem.Expr.Name (PySem.Str.ofString "_") ⟨0, 0, 0, 0⟩) (fun _ => rfl) ?_)
  refine' item_strsTu (ys := ends) ?i1 ?iz ?i2 ?i3 ?i4 ?_ ?i5 ?i6
  case i5 => with_unfolding_all rfl
  case i6 => kmk_pure
  case i1 => exact isTupN N6 (List.Mem.head _)
  case iz => exact .cons _ _ (.cons _ _ (.cons _ _ (.cons _ _ .nil)))
  case i2 => exact Int.fmod_nonneg_of_pos _ (by decide)
  case i3 => have := Int.fmod_lt_of_pos (a1.fdiv 128) (show (0 : Int) < 4 by decide); show _ < (4 : Int); exact this
  case i4 => have := Int.fmod_lt_of_pos (a1.fdiv 128) (show (0 : Int) < 4 by decide); omega
  intro t6
  have hel := ends_len ((a1.fdiv 128).fmod 4).toNat
  have heo := ends_ok ((a1.fdiv 128).fmod 4).toNat
  generalize ends.getD ((a1.fdiv 128).fmod 4).toNat Str.empty = tail at *
  have hk0 : 0 ≤ a1.fdiv 8 ∧ a1.fdiv 8 < 1000000000 := by
    rw [Int.fdiv_eq_ediv_of_nonneg _ (by decide)]; omega
  ktr_rel
  rename News _ _ _ _ => N5
  rw [bls_drop] at N5
  ktr_call (rest_c (mean := _) (mg := _) (mb := _) (rest := _) _ (fs.drop (a1.fmod ((fs.length : Int) + 1)).toNat) 0 (a1.fdiv 8) _) ⟨by simp; omega, hk0⟩
  intro lr h5 tk5 gs n5 hgs F5 N5
  try dsimp only
  ktr_rel
  ktr_call (agree_c (mean := _) (mg := _) (mb := _) (rest := _) begun _ _ fs _ (wr begun (fs.take (a1.fmod ((fs.length : Int) + 1)).toNat) ++ tail) _ _ gs _) (law_ok hf4 hto heo htl hel (by omega) hgs)
  intro h4 tk4 F4 N4
  try dsimp only
  k_end
  wrow_close
end Mine
end
theorem PySem.Challenge.cw_mg0011_03_holds : PySem.Challenge.rw_mg0011_03.Holds := by
  exact Mine.law_h
