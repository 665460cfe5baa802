import PyProof.Rows.All
import Wide.All
import OpenK.AllK
import Wide.FinOn
import Lean
import PySem.Challenge.RW_mg0011_02
set_option Elab.async false
set_option maxRecDepth 100000
set_option maxHeartbeats 8000000
section
open PySem PySem.W PyProof.Rows
open_top Mine.hd for PySem.Challenge.rw_mg0011_02
end
section
open PySem PySem.W PyProof.Rows PySem.Builtin PySem.Builtin.Str
namespace Mine
def sub1 (c : Nat) (z : List Nat) (l : List Nat) : List Nat := l.flatMap fun a => if a = c then z else [a]
theorem sub1_append (c z a b) : sub1 c z (a ++ b) = sub1 c z a ++ sub1 c z b := by simp [sub1]
theorem sub1_free (c z) : ∀ l : List Nat, c ∉ l → sub1 c z l = l
  | [], _ => rfl
  | k :: r, h => by
    have h1 : ¬ k = c := fun e => h (e ▸ List.mem_cons_self ..)
    have h2 : c ∉ r := fun m => h (List.mem_cons_of_mem _ m)
    have ih := sub1_free c z r h2
    simp only [sub1, List.flatMap_cons, if_neg h1] at ih ⊢
    rw [ih]; rfl
theorem sub1_join (c : Nat) (z : Str) : ∀ parts : List Str, (∀ p ∈ parts, c ∉ p.cps.toList) → sub1 c z.cps.toList (Str.join ⟨#[c]⟩ parts).cps.toList = (Str.join z parts).cps.toList
  | [], _ => rfl
  | [p], h => sub1_free c _ _ (h p (List.mem_singleton.mpr rfl))
  | p :: q :: r, h => by
    have ih := sub1_join c z (q :: r) fun a ha => h a (List.mem_cons_of_mem _ ha)
    show sub1 c z.cps.toList (p ++ ⟨#[c]⟩ ++ Str.join ⟨#[c]⟩ (q :: r)).cps.toList = (p ++ z ++ Str.join z (q :: r)).cps.toList
    simp only [Str.cps_append, Array.toList_append]
    rw [sub1_append, sub1_append, ih, sub1_free c _ _ (h p (List.mem_cons_self ..))]
    have : sub1 c z.cps.toList [c] = z.cps.toList := by simp [sub1]
    rw [this]
theorem replace_sub (x z : Str) (c : Nat) : (Txt.replace x ⟨#[c]⟩ z).cps.toList = sub1 c z.cps.toList x.cps.toList := by
  rw [StrLaws.replace_one, ← sub1_join c z _ (StrLaws.split_free x c), StrLaws.join_split]
theorem sub1_len (c z n) (hz : z.length ≤ n) (hn : 1 ≤ n) : ∀ l : List Nat, (sub1 c z l).length ≤ n * l.length
  | [] => by simp [sub1]
  | k :: r => by
    have ih := sub1_len c z n hz hn r
    simp only [sub1, List.flatMap_cons, List.length_append, List.length_cons] at ih ⊢
    have : (if k = c then z else [k]).length ≤ n := by split; exact hz; exact hn
    rw [Nat.mul_add]; omega
def tok (q : Bool) (a : Nat) : List Nat :=
  if a = 38 then [38, 97, 109, 112, 59] else if a = 60 then [38, 108, 116, 59] else if a = 62 then [38, 103, 116, 59]
  else if q = true ∧ a = 34 then [38, 113, 117, 111, 116, 59] else if q = true ∧ a = 39 then [38, 35, 120, 50, 55, 59] else [a]
def escL (q : Bool) (l : List Nat) : List Nat := l.flatMap (tok q)
def escS (v : Str) (q : Bool) : Str := ⟨(escL q v.cps.toList).toArray⟩
def chain3 (v : Str) : Str := Txt.replace (Txt.replace (Txt.replace v (Str.ofString "&") (Str.ofString "&amp;")) (Str.ofString "<") (Str.ofString "&lt;")) (Str.ofString ">") (Str.ofString "&gt;")
def chain5 (v : Str) : Str := Txt.replace (Txt.replace (chain3 v) (Str.ofString "\"") (Str.ofString "&quot;")) (Str.ofString "'") (Str.ofString "&#x27;")
theorem str_ext {a : Str} {l : List Nat} (e : a.cps.toList = l) : a = ⟨l.toArray⟩ := by
  obtain ⟨⟨x⟩⟩ := a
  simp only at e
  rw [e]
theorem flat_sub (c z) (f g : Nat → List Nat) (h : ∀ a, sub1 c z (f a) = g a) : ∀ l : List Nat, sub1 c z (l.flatMap f) = l.flatMap g
  | [] => rfl
  | k :: r => by rw [List.flatMap_cons, List.flatMap_cons, sub1_append, h, flat_sub c z f g h r]
theorem esc3 (v : Str) : chain3 v = escS v false := by
  have e : (chain3 v).cps.toList = escL false v.cps.toList := by
    show (Txt.replace (Txt.replace (Txt.replace v ⟨#[38]⟩ (Str.ofString "&amp;")) ⟨#[60]⟩ (Str.ofString "&lt;")) ⟨#[62]⟩ (Str.ofString "&gt;")).cps.toList = _
    rw [replace_sub, replace_sub, replace_sub]
    show sub1 62 [38, 103, 116, 59] (sub1 60 [38, 108, 116, 59] (sub1 38 [38, 97, 109, 112, 59] v.cps.toList)) = _
    rw [show sub1 38 [38, 97, 109, 112, 59] v.cps.toList = v.cps.toList.flatMap _ from rfl,
      flat_sub 60 _ _ (fun a => if a = 60 then [38, 108, 116, 59] else if a = 38 then [38, 97, 109, 112, 59] else [a]),
      flat_sub 62 _ _ (tok false)]
    · rfl
    · intro a; unfold tok; (repeat' split) <;> simp_all [sub1]
    · intro a; (repeat' split) <;> simp_all [sub1]
  exact str_ext e
theorem esc5 (v : Str) : chain5 v = escS v true := by
  have e : (chain5 v).cps.toList = escL true v.cps.toList := by
    show (Txt.replace (Txt.replace (chain3 v) ⟨#[34]⟩ (Str.ofString "&quot;")) ⟨#[39]⟩ (Str.ofString "&#x27;")).cps.toList = _
    rw [replace_sub, replace_sub, esc3]
    show sub1 39 [38, 35, 120, 50, 55, 59] (sub1 34 [38, 113, 117, 111, 116, 59] (v.cps.toList.flatMap (tok false))) = _
    rw [flat_sub 34 _ _ (fun a => if a = 34 then [38, 113, 117, 111, 116, 59] else tok false a),
      flat_sub 39 _ _ (tok true)]
    · rfl
    · intro a; unfold tok; (repeat' split) <;> simp_all [sub1]
    · intro a; unfold tok; (repeat' split) <;> simp_all [sub1]
  exact str_ext e
section
variable {prog : Program} {w : World} {A : Around} {E : Value → Shared → Prop} {s : Shared} {x y z : Str} {t u v : Tok} {Q : Value → Shared → Prop}
theorem rep {c N : Nat} (hu : u ≠ 0) (hv : v ≠ 0) (huv : u ≠ v) (hx : x.length ≤ N) (hyz : (y == z) = false) (hz : z.length ≤ 6) (hy : y = ⟨#[c]⟩) (hN : N + (N + 1) * 6 ≤ 16777216)
    (hq : ∀ t' k, s.toks ≤ k → (Txt.replace x y z).length ≤ 6 * N → Q (.str (Txt.replace x y z) t') { s with toks := k }) : wpAny (model prog w) A (call (.builtin "str.replace") [.str x t, .str y u, .str z v]) Q E s := by
  have hlen : (Txt.replace x y z).length ≤ 6 * N := by
    have h1 := sub1_len c z.cps.toList 6 hz (by omega) x.cps.toList
    rw [hy]
    have h2 := replace_sub x z c
    have h3 := congrArg List.length h2
    have h4 : x.cps.toList.length ≤ N := hx
    have : (Txt.replace x ⟨#[c]⟩ z).length = (Txt.replace x ⟨#[c]⟩ z).cps.toList.length := rfl
    omega
  have hb : x.length + (x.length + 1) * z.length ≤ 16777216 := by
    have := Nat.mul_le_mul (Nat.succ_le_succ hx) hz
    simp only [Nat.succ_eq_add_one] at this
    omega
  have hl : tooLong (x.length + (occurrences x y 0 x.length (x.length + 1)).length * z.length) = false := by
    have h1 := StrLaws.occ_length_le x y 0 x.length (x.length + 1)
    have h2 : (occurrences x y 0 x.length (x.length + 1)).length * z.length ≤ (x.length + 1) * z.length := Nat.mul_le_mul_right _ h1
    have e : (2 : Nat) ^ 24 = 16777216 := by decide
    unfold tooLong sizeLine
    exact decide_eq_false (by omega)
  refine call_gives F.slot_str_replace (typeIs_str _ _ _) F.entry_str_replace (F.args_str_replace_3 _ _ _)
    (gives_str_replace x y z t u v fun _ => ⟨by simp [hu, hv], by simp [huv], hyz, hl⟩) ?_
  have hq' := fun t' k hk => hq t' k hk hlen
  clear hq hlen
  unfold Txt.replace at hq'
  cases hc : ((occurrences x y 0 x.length (x.length + 1)).isEmpty || (y.length == 0 && z.length == 0))
  · rw [hc] at hq'
    simp only [Bool.false_eq_true, if_false] at hq' ⊢
    exact ⟨fits_replaced y hb, hq' _ _ (Nat.le_succ _)⟩
  · rw [hc] at hq'
    simp only [if_true] at hq' ⊢
    exact hq' t s.toks (Nat.le_refl _)
end
end Mine
end
section
open PySem PySem.W PyProof.Rows PySem.Spec PySem.Calls PyProof.V
namespace Mine
theorem frN {h₀ h : Heap} {L : Addr} {m : Str → Option Value} {a : Str} {v : Value} (F : Fr h₀ L h m) (e : m a = some v) : Fr h₀ L h (fun y => if y = a then some v else m y) := by
  have : m = fun y => if y = a then some v else m y := funext fun y => by
    by_cases hy : y = a
    · rw [if_pos hy, hy, e]
    · rw [if_neg hy]
  rw [← this]; exact F
theorem forV {prog : Program} {w : World} {A : Around} {s : Shared} {env : Env} {E : Value → Shared → Prop} {Q : Flow → Shared → Prop} {x : Str} {px pos : Pos} {iter : Expr} {body : List Stmt} {h₀ : Heap} {m : Str → Option Value} (_F : Fr h₀ env.locals s.heap m) (hx : env.kindOf x = some .local)
    (hp : (env.scope.kind == .class || (env.scope.kind == .module && env.locals != env.globals)) = false)
    (hE : PassesOwn (model prog w) A env E)
    (hs : ∀ x, foldedSetIterable iter env x = pure x)
    (h : wpAny (model prog w) A (eval iter env) (fun xv s₁ => wpAny (model prog w) A (pyIter xv) (fun it s₂ => LoopAtV prog w A h₀ env x body Q E it s₂) E s₁) E s) :
    wpAny (model prog w) A (exec (.For (.Name x px) iter body [] pos) env) Q E s := For_invV h₀ hx hp h hs hE
def Hold (p : Prop) : Prop := p
theorem hold {p : Prop} (h : p) : Hold p := h
theorem unhold {p : Prop} (h : Hold p) : p := h
def TP (h₀ : Heap) (L I : Addr) (own : List (Addr × Obj)) (Jn : (Str → Option Value) → List (Addr × Obj) → Prop) (s₁ : Shared) (Q : Flow → Shared → Prop) (f : Flow) (s₂ : Shared) : Prop :=
  match f with
  | .ret v => Q (.ret v) s₂
  | .brk => Q .next s₂
  | _ => ∃ h' tk m' news', s₂ = { s₁ with heap := h', toks := tk } ∧ Fr h₀ L h' m' ∧ News h₀ L h' (news' ++ own) ∧ (∀ p ∈ news', p.1 ≠ I) ∧ Jn m' news'
section
variable {prog : Program} {w : World} {A : Around} {E : Value → Shared → Prop} {s : Shared} {env : Env} {h₀ : Heap} {x : Str} {body : List Stmt} {Q : Flow → Shared → Prop}
theorem news_swap {h₀ h : Heap} {L : Addr} {a b : List (Addr × Obj)} (N : News h₀ L h (a ++ b)) : News h₀ L h (b ++ a) :=
  fun p hp => N p (by simp only [List.mem_append] at hp ⊢; exact hp.symm)
theorem iterL {l : Addr} {vs : List Value} {m₀ : Str → Option Value} {news : List (Addr × Obj)} (J : Nat → (Str → Option Value) → List (Addr × Obj) → Prop)
    (hh : A.handled = none) (hls : s.heap.IsList l vs.toArray) (hlL : l ≠ env.locals) (F : Fr h₀ env.locals s.heap m₀) (N : News h₀ env.locals s.heap news) (hj : J 0 m₀ news)
    (turn : ∀ i v m₁ news₁ h tk own I, vs[i]? = some v → J i m₁ news₁ → (∀ p ∈ news₁, p.1 ≠ I) → (∀ p ∈ own, p.1 = I ∨ p.1 = l) → (∀ o, h.get? I = some o → (I, o) ∈ own) →
      Fr h₀ env.locals h (fun y => if y = x then some v else m₁ y) → News h₀ env.locals h (news₁ ++ own) →
      wpAny (model prog w) A (execs body env) (TP h₀ env.locals I own (J (i + 1)) { s with heap := h, toks := tk } Q) E { s with heap := h, toks := tk })
    (done : ∀ m₁ news₁ h tk, J vs.length m₁ news₁ → Fr h₀ env.locals h m₁ → News h₀ env.locals h news₁ → Q .next { s with heap := h, toks := tk }) :
    wpAny (model prog w) A (pyIter (.ref l)) (fun it s₂ => LoopAtV prog w A h₀ env x body Q E it s₂) E s := by
  obtain ⟨ol, hol, _⟩ := id hls
  have hne : l ≠ s.heap.objs.size := Nat.ne_of_lt (Heap.lt_size hol)
  refine wpAny_pyIter_list hls ?_
  have W := Walks.list (prog := prog) (w := w) hh s.heap.objs.size l hne vs.toArray
  have hlen : vs.toArray.size = vs.length := by simp
  rw [hlen] at W
  refine ⟨_, _, _, vs.length, _, _, m₀, news, J, rfl, W, ?_, ?_, ?_, ⟨⟨_, Heap.get?_push_size _ rfl, rfl, rfl⟩, hls.at fun o e => Heap.get?_push_of_some _ e⟩, F.push _, (fun p hp => ⟨Heap.get?_push_of_some _ (N p hp).1, (N p hp).2⟩), hj, ?_, ?_⟩
  · intro hm
    rcases List.mem_cons.mp hm with e | hm
    · exact absurd F.ns.lt (e ▸ Nat.lt_irrefl _)
    · exact hlL (List.mem_singleton.mp hm).symm
  · intro b hb
    rw [List.mem_singleton.mp hb]
    exact next_is_new F
  · intro p hp hI
    exact absurd (Heap.lt_size (N p hp).1) ((List.mem_singleton.mp hI) ▸ Nat.lt_irrefl _)
  · rintro i v m₁ news₁ s₁ own ⟨hh', tk', rfl⟩ hin hP hJ hoff hfp hat hall hst F₁ N₁
    have hP' : vs[i]? = some v := by simpa using hP
    refine wpAny_mono (turn i v m₁ news₁ hh' tk' own s.heap.objs.size hP' hJ (fun p hp e => hoff p hp (List.mem_singleton.mpr e)) (fun p hp => ?_) (fun o ho => hall _ (List.mem_cons_self ..) (next_is_new F) o ho) F₁ (news_swap N₁)) (fun f s₂ p => ?_) fun _ _ e => e
    · have := hfp p hp
      simpa using this
    · have fin : (∃ h' tk m' news', s₂ = { ({ s with heap := hh', toks := tk' } : Shared) with heap := h', toks := tk } ∧ Fr h₀ env.locals h' m' ∧ News h₀ env.locals h' (news' ++ own) ∧ (∀ p ∈ news', p.1 ≠ s.heap.objs.size) ∧ J (i + 1) m' news') →
          LoopStepU h₀ env.locals [s.heap.objs.size] own (J (i + 1)) { s with heap := hh', toks := tk' } .next s₂ := by
        rintro ⟨h', tk, m', news', e, F', N', hn, hm⟩
        exact ⟨rfl, h', tk, m', news', e, F', news_swap N', fun p hp hI => hn p hp (List.mem_singleton.mp hI), hm⟩
      cases f with
      | ret v => exact .ret p
      | brk => exact .brk p
      | next => exact .next (fin p)
      | cont => exact .cont (fin p)
  · rintro h' tk m' news' F' N' _ hJ
    exact done m' news' h' tk hJ F' N'
end
end Mine
end
section
open PySem PySem.W PyProof.Rows PySem.Spec PySem.Calls PyProof.V
namespace Mine
section
variable {prog : Program} {w : World} {A : Around} {E : Value → Shared → Prop} {s : Shared} {env : Env} {h₀ : Heap} {x : Str} {body : List Stmt} {Q : Flow → Shared → Prop}
theorem walkS (hh : A.handled = none) (x₀ : Str) (t : Tok) (I : Addr) (h : Heap) (ho : h.get? I = some { cls := .type (strIterType x₀), data := .fields #[.str x₀ t, .int 0 0] }) :
    ∃ St, Walks prog w A I [I] [I] x₀.cps.size (SignAt x₀) St ∧ St 0 h := by
  cases ha : x₀.cps.all (· < 128)
  · refine ⟨_, Walks.strWide hh I x₀ t, ⟨_, ho, by simp [strIterType, ha], rfl⟩⟩
  · refine ⟨_, Walks.strAscii hh I x₀ t, ⟨_, ho, by simp [strIterType, ha], rfl⟩⟩
theorem iterS {x₀ : Str} {t : Tok} {m₀ : Str → Option Value} {news : List (Addr × Obj)} (J : Nat → (Str → Option Value) → List (Addr × Obj) → Prop)
    (hh : A.handled = none) (F : Fr h₀ env.locals s.heap m₀) (N : News h₀ env.locals s.heap news) (hj : J 0 m₀ news)
    (turn : ∀ i c u m₁ news₁ h tk own I, x₀.cps[i]? = some c → J i m₁ news₁ → (∀ p ∈ news₁, p.1 ≠ I) → (∀ p ∈ own, p.1 = I) →
      Fr h₀ env.locals h (fun y => if y = x then some (.str ⟨#[c]⟩ u) else m₁ y) → News h₀ env.locals h (news₁ ++ own) →
      wpAny (model prog w) A (execs body env) (TP h₀ env.locals I own (J (i + 1)) { s with heap := h, toks := tk } Q) E { s with heap := h, toks := tk })
    (done : ∀ m₁ news₁ h tk, J x₀.cps.size m₁ news₁ → Fr h₀ env.locals h m₁ → News h₀ env.locals h news₁ → Q .next { s with heap := h, toks := tk }) :
    wpAny (model prog w) A (pyIter (.str x₀ t)) (fun it s₂ => LoopAtV prog w A h₀ env x body Q E it s₂) E s := by
  refine wpAny_pyIter_strU ?_
  obtain ⟨St, W, hst⟩ := walkS (prog := prog) (w := w) hh x₀ t s.heap.objs.size (s.heap.push { cls := .type (strIterType x₀), data := .fields #[.str x₀ t, .int 0 0] }) (Heap.get?_push_size _ rfl)
  refine ⟨_, _, _, x₀.cps.size, _, _, m₀, news, J, rfl, W, ?_, ?_, ?_, hst, F.push _, (fun p hp => ⟨Heap.get?_push_of_some _ (N p hp).1, (N p hp).2⟩), hj, ?_, ?_⟩
  · intro hm
    exact absurd F.ns.lt ((List.mem_singleton.mp hm) ▸ Nat.lt_irrefl _)
  · intro b hb
    rw [List.mem_singleton.mp hb]
    exact next_is_new F
  · intro p hp hI
    exact absurd (Heap.lt_size (N p hp).1) ((List.mem_singleton.mp hI) ▸ Nat.lt_irrefl _)
  · rintro i _ m₁ news₁ s₁ own ⟨hh', tk', rfl⟩ hin ⟨c, u, hc, rfl⟩ hJ hoff hfp hat hall hst F₁ N₁
    refine wpAny_mono (turn i c u m₁ news₁ hh' tk' own s.heap.objs.size hc hJ (fun p hp e => hoff p hp (List.mem_singleton.mpr e)) (fun p hp => List.mem_singleton.mp (hfp p hp)) F₁ (news_swap N₁)) (fun f s₂ p => ?_) fun _ _ e => e
    have fin : (∃ h' tk m' news', s₂ = { ({ s with heap := hh', toks := tk' } : Shared) with heap := h', toks := tk } ∧ Fr h₀ env.locals h' m' ∧ News h₀ env.locals h' (news' ++ own) ∧ (∀ p ∈ news', p.1 ≠ s.heap.objs.size) ∧ J (i + 1) m' news') →
          LoopStepU h₀ env.locals [s.heap.objs.size] own (J (i + 1)) { s with heap := hh', toks := tk' } .next s₂ := by
      rintro ⟨h', tk, m', news', e, F', N', hn, hm⟩
      exact ⟨rfl, h', tk, m', news', e, F', news_swap N', fun p hp hI => hn p hp (List.mem_singleton.mp hI), hm⟩
    cases f with
    | ret v => exact .ret p
    | brk => exact .brk p
    | next => exact .next (fin p)
    | cont => exact .cont (fin p)
  · rintro h' tk m' news' F' N' _ hJ
    exact done m' news' h' tk hJ F' N'
end
end Mine
end
section
open PySem PySem.W PyProof.Rows PySem.Spec PySem.Calls PyProof.V
namespace Mine
section
variable {prog : Program} {w : World} {A : Around} {E : Value → Shared → Prop} {s : Shared} {env : Env} {h₀ : Heap} {x : Str} {body : List Stmt} {Q : Flow → Shared → Prop}
theorem iterR {r : Addr} {b : Int} {t u v : Tok} {n : Nat} {m₀ : Str → Option Value} {news : List (Addr × Obj)} (J : Nat → (Str → Option Value) → List (Addr × Obj) → Prop)
    (hh : A.handled = none) (hr : IsRange s.heap r 0 b 1 t u v) (hb : b = ((n : Nat) : Int)) (hn : n ≤ 1000000) (F : Fr h₀ env.locals s.heap m₀) (N : News h₀ env.locals s.heap news) (hj : J 0 m₀ news)
    (turn : ∀ i u m₁ news₁ h tk own I, i < n → J i m₁ news₁ → (∀ p ∈ news₁, p.1 ≠ I) → (∀ p ∈ own, p.1 = I) →
      Fr h₀ env.locals h (fun y => if y = x then some (.int ((i : Nat) : Int) u) else m₁ y) → News h₀ env.locals h (news₁ ++ own) →
      wpAny (model prog w) A (execs body env) (TP h₀ env.locals I own (J (i + 1)) { s with heap := h, toks := tk } Q) E { s with heap := h, toks := tk })
    (done : ∀ m₁ news₁ h tk, J n m₁ news₁ → Fr h₀ env.locals h m₁ → News h₀ env.locals h news₁ → Q .next { s with heap := h, toks := tk }) :
    wpAny (model prog w) A (pyIter (.ref r)) (fun it s₂ => LoopAtV prog w A h₀ env x body Q E it s₂) E s := by
  subst hb
  refine wpAny_pyIter_range hr (small_one (by omega) (by omega) (by omega) (by omega)) ?_
  have W := LCg.range_walks (prog := prog) (w := w) (I := s.heap.objs.size) hh 0 n
  refine ⟨_, _, _, n, _, _, m₀, news, J, rfl, W, ?_, ?_, ?_, ?_, F.push _, (fun p hp => ⟨Heap.get?_push_of_some _ (N p hp).1, (N p hp).2⟩), hj, ?_, ?_⟩
  · intro hm
    exact absurd F.ns.lt ((List.mem_singleton.mp hm) ▸ Nat.lt_irrefl _)
  · intro b hb
    rw [List.mem_singleton.mp hb]
    exact next_is_new F
  · intro p hp hI
    exact absurd (Heap.lt_size (N p hp).1) ((List.mem_singleton.mp hI) ▸ Nat.lt_irrefl _)
  · show IsRangeIter _ _ _ _ _
    rw [show Builtin.Range.rangeSize 0 ((n : Nat) : Int) 1 = ((n : Nat) : Int) by have := rangeSize_nat 0 ((n : Nat) : Int); rw [this]; omega]
    have : IsRangeIter (s.heap.push { cls := .type "range_iterator", data := .fields #[rawInt 0, rawInt ((n : Nat) : Int), rawInt 1] }) s.heap.objs.size 0 ((n : Nat) : Int) 1 := Heap.get?_push_size _ rfl
    simpa using this
  · rintro i _ m₁ news₁ s₁ own ⟨hh', tk', rfl⟩ hin ⟨u, rfl⟩ hJ hoff hfp hat hall hst F₁ N₁
    rw [Int.zero_add] at F₁
    refine wpAny_mono (turn i u m₁ news₁ hh' tk' own s.heap.objs.size hin hJ (fun p hp e => hoff p hp (List.mem_singleton.mpr e)) (fun p hp => List.mem_singleton.mp (hfp p hp)) F₁ (news_swap N₁)) (fun f s₂ p => ?_) fun _ _ e => e
    have fin : (∃ h' tk m' news', s₂ = { ({ s with heap := hh', toks := tk' } : Shared) with heap := h', toks := tk } ∧ Fr h₀ env.locals h' m' ∧ News h₀ env.locals h' (news' ++ own) ∧ (∀ p ∈ news', p.1 ≠ s.heap.objs.size) ∧ J (i + 1) m' news') →
          LoopStepU h₀ env.locals [s.heap.objs.size] own (J (i + 1)) { s with heap := hh', toks := tk' } .next s₂ := by
      rintro ⟨h', tk, m', news', e, F', N', hn, hm⟩
      exact ⟨rfl, h', tk, m', news', e, F', news_swap N', fun p hp hI => hn p hp (List.mem_singleton.mp hI), hm⟩
    cases f with
    | ret v => exact .ret p
    | brk => exact .brk p
    | next => exact .next (fin p)
    | cont => exact .cont (fin p)
  · rintro h' tk m' news' F' N' _ hJ
    exact done m' news' h' tk hJ F' N'
def TF (h₀ : Heap) (L : Addr) (nw : List (Addr × Obj)) (Jn : (Str → Option Value) → Prop) (s₁ : Shared) (Q : Flow → Shared → Prop) (f : Flow) (s₂ : Shared) : Prop :=
  match f with
  | .ret v => Q (.ret v) s₂
  | .brk => Q .next s₂
  | _ => ∃ h' tk m', s₂ = { s₁ with heap := h', toks := tk } ∧ Fr h₀ L h' m' ∧ News h₀ L h' nw ∧ Jn m'
theorem tf_next {L : Addr} {nw : List (Addr × Obj)} {Jn : (Str → Option Value) → Prop} {s₁ : Shared} {h' : Heap} {tk : Nat} {m' : Str → Option Value}
    (F : Fr h₀ L h' m') (N : News h₀ L h' nw) (hj : Jn m') : TF h₀ L nw Jn s₁ Q .next { s₁ with heap := h', toks := tk } := ⟨h', tk, m', rfl, F, N, hj⟩
theorem tf_ret {L : Addr} {nw : List (Addr × Obj)} {Jn : (Str → Option Value) → Prop} {s₁ s₂ : Shared} {v : Value} (h : Q (.ret v) s₂) : TF h₀ L nw Jn s₁ Q (.ret v) s₂ := h
theorem tf_tp {L I : Addr} {news own : List (Addr × Obj)} {Jn : (Str → Option Value) → Prop} {s₁ : Shared} {f : Flow} {s₂ : Shared} (off : ∀ p ∈ news, p.1 ≠ I)
    (h : TF h₀ L (news ++ own) Jn s₁ Q f s₂) : TP h₀ L I own (fun m nw => Jn m ∧ nw = news) s₁ Q f s₂ := by
  cases f with
  | ret v => exact h
  | brk => exact h
  | next => obtain ⟨h', tk, m', e, F, N, hj⟩ := h; exact ⟨h', tk, m', news, e, F, N, off, hj, rfl⟩
  | cont => obtain ⟨h', tk, m', e, F, N, hj⟩ := h; exact ⟨h', tk, m', news, e, F, N, off, hj, rfl⟩
theorem iterRF {r : Addr} {b : Int} {t u v : Tok} {n : Nat} {m₀ : Str → Option Value} {news : List (Addr × Obj)} (J : Nat → (Str → Option Value) → Prop)
    (hh : A.handled = none) (hr : IsRange s.heap r 0 b 1 t u v) (hb : b = ((n : Nat) : Int)) (hn : n ≤ 1000000) (F : Fr h₀ env.locals s.heap m₀) (N : News h₀ env.locals s.heap news) (hj : J 0 m₀)
    (turn : ∀ i u m₁ h tk own, i < n → J i m₁ → Fr h₀ env.locals h (fun y => if y = x then some (.int ((i : Nat) : Int) u) else m₁ y) → News h₀ env.locals h (news ++ own) →
      wpAny (model prog w) A (execs body env) (TF h₀ env.locals (news ++ own) (J (i + 1)) { s with heap := h, toks := tk } Q) E { s with heap := h, toks := tk })
    (done : ∀ m₁ h tk, J n m₁ → Fr h₀ env.locals h m₁ → News h₀ env.locals h news → Q .next { s with heap := h, toks := tk }) :
    wpAny (model prog w) A (pyIter (.ref r)) (fun it s₂ => LoopAtV prog w A h₀ env x body Q E it s₂) E s :=
  iterR (fun i m nw => J i m ∧ nw = news) hh hr hb hn F N ⟨hj, rfl⟩
    (fun i u m₁ news₁ h tk own I hi hJ off hown F₁ N₁ => by
      obtain ⟨hJ, rfl⟩ := hJ
      exact wpAny_mono (turn i u m₁ h tk own hi hJ F₁ N₁) (fun f s₂ p => tf_tp off p) fun _ _ e => e)
    (fun m₁ news₁ h tk hJ F₁ N₁ => by
      obtain ⟨hJ, rfl⟩ := hJ
      exact done m₁ h tk hJ F₁ N₁)
theorem iterLF {l : Addr} {vs : List Value} {m₀ : Str → Option Value} {news : List (Addr × Obj)} (J : Nat → (Str → Option Value) → Prop)
    (hh : A.handled = none) (hls : s.heap.IsList l vs.toArray) (hlL : l ≠ env.locals) (F : Fr h₀ env.locals s.heap m₀) (N : News h₀ env.locals s.heap news) (hj : J 0 m₀)
    (turn : ∀ i v m₁ h tk own, vs[i]? = some v → J i m₁ → Fr h₀ env.locals h (fun y => if y = x then some v else m₁ y) → News h₀ env.locals h (news ++ own) →
      wpAny (model prog w) A (execs body env) (TF h₀ env.locals (news ++ own) (J (i + 1)) { s with heap := h, toks := tk } Q) E { s with heap := h, toks := tk })
    (done : ∀ m₁ h tk, J vs.length m₁ → Fr h₀ env.locals h m₁ → News h₀ env.locals h news → Q .next { s with heap := h, toks := tk }) :
    wpAny (model prog w) A (pyIter (.ref l)) (fun it s₂ => LoopAtV prog w A h₀ env x body Q E it s₂) E s :=
  iterL (fun i m nw => J i m ∧ nw = news) hh hls hlL F N ⟨hj, rfl⟩
    (fun i v m₁ news₁ h tk own I hi hJ off hown _ F₁ N₁ => by
      obtain ⟨hJ, rfl⟩ := hJ
      exact wpAny_mono (turn i v m₁ h tk own hi hJ F₁ N₁) (fun f s₂ p => tf_tp off p) fun _ _ e => e)
    (fun m₁ news₁ h tk hJ F₁ N₁ => by
      obtain ⟨hJ, rfl⟩ := hJ
      exact done m₁ h tk hJ F₁ N₁)
end
end Mine
end
section
open PySem PySem.W PyProof.Rows PyProof.Rows.LSm PySem.Calls PyProof.V PySem.Spec
namespace Mine
def lst (vs : List Value) (n : Nat) : Obj := W.listOf vs.toArray n
def bls (fs : List Bool) : List Value := fs.map Value.bool
theorem isListN {h₀ h : Heap} {L l : Addr} {news : List (Addr × Obj)} {a : Array Value} {n : Nat} (N : News h₀ L h news) (hm : (l, W.listOf a n) ∈ news) : h.IsList l a := ⟨_, (N _ hm).1, rfl, n, rfl⟩
theorem strs_get : ∀ {vs : List Value} {ys : List Str} {i : Nat} {y : Str}, StrsAre vs ys → ys[i]? = some y → ∃ t, vs[i]? = some (.str y t)
  | _, _, i, y, .nil, h => by simp at h
  | _, _, 0, y, .cons z t r, h => by simp at h; subst h; exact ⟨t, rfl⟩
  | _, _, i + 1, y, .cons z t r, h => by simpa using strs_get r (by simpa using h)
theorem strs_len : ∀ {vs : List Value} {ys : List Str}, StrsAre vs ys → vs.length = ys.length
  | _, _, .nil => rfl
  | _, _, .cons z t r => by simp [strs_len r]
theorem strs_push : ∀ {vs : List Value} {ys : List Str} (y : Str) (t : Tok), StrsAre vs ys → StrsAre (vs ++ [.str y t]) (ys ++ [y])
  | _, _, y, t, .nil => .cons y t .nil
  | _, _, y, t, .cons z u r => .cons z u (strs_push y t r)
theorem last_item {prog : Program} {w : World} {A : Around} {E : Value → Shared → Prop} {s : Shared} {value slice : PySem.Expr} {l : Addr} {vs : List Value} {u : Tok} {v : Value} {Q : Value → Shared → Prop}
    (hl : s.heap.IsList l vs.toArray) (hx : vs[vs.length - 1]? = some v) (h : Q v s)
    (hs : subscripted slice false (.ref l) (.int (-1) u) = operate [.ref l, .int (-1) u] (getItem (.ref l) (.int (-1) u)) := by with_unfolding_all rfl) :
    wpAny (model prog w) A (subscriptTail value slice (.ref l) (.int (-1) u)) Q E s := by
  have hp : 0 < vs.length := by
    cases vs with
    | nil => simp at hx
    | cons a b => simp
  refine tail_any hl.typeIs slot_list_getitem.lookup (wpAny_getItem_list_neg hl (by decide) (by simp; omega) (by decide) ?_ h) hs
  have : ((-1 : Int) + (vs.toArray.size : Int)).toNat = vs.length - 1 := by simp; omega
  rw [this]; simpa using hx
theorem allLt_ne {d : Addr} : ∀ {l : List (Addr × Obj)}, AllLt d l → ∀ p ∈ l, p.1 ≠ d
  | [], _ => fun _ h => nomatch h
  | p :: r, h => fun q hq => by
    rcases List.mem_cons.mp hq with e | hq
    · subst e; exact Nat.ne_of_lt h.1
    · exact allLt_ne h.2 q hq
theorem tp_next {h₀ : Heap} {L I : Addr} {own : List (Addr × Obj)} {Jn : (Str → Option Value) → List (Addr × Obj) → Prop} {s₁ : Shared} {Q : Flow → Shared → Prop} {h' : Heap} {tk : Nat} {m' : Str → Option Value} {news' : List (Addr × Obj)}
    (F : Fr h₀ L h' m') (N : News h₀ L h' (news' ++ own)) (hn : ∀ p ∈ news', p.1 ≠ I) (hj : Jn m' news') : TP h₀ L I own Jn s₁ Q .next { s₁ with heap := h', toks := tk } := ⟨h', tk, m', news', rfl, F, N, hn, hj⟩
theorem bls_get {fs : List Bool} {i : Nat} {v : Value} (h : (bls fs)[i]? = some v) : ∃ b, fs[i]? = some b ∧ v = .bool b := by
  simp only [bls, List.getElem?_map] at h
  cases e : fs[i]? with
  | none => rw [e] at h; cases h
  | some b => rw [e] at h; exact ⟨b, rfl, (Option.some.inj h).symm⟩
theorem isTupN {h₀ h : Heap} {L l : Addr} {news : List (Addr × Obj)} {a : Array Value} {n : Nat} (N : News h₀ L h news) (hm : (l, seqObj "tuple" a n) ∈ news) : IsTup h l a := ⟨_, (N _ hm).1, rfl, n, rfl⟩
theorem bls_are : ∀ fs : List Bool, BoolsAre (bls fs) fs
  | [] => .nil
  | b :: r => .cons b (bls_are r)
theorem escL_app (q : Bool) (a b : List Nat) : escL q (a ++ b) = escL q a ++ escL q b := by simp [escL]
theorem join_flat : ∀ ys : List Str, (Str.join (Str.ofString "") ys).cps.toList = ys.flatMap fun y => y.cps.toList
  | [] => rfl
  | [y] => by simp [Str.join]
  | y :: z :: r => by
    have ih := join_flat (z :: r)
    show (y ++ Str.ofString "" ++ Str.join (Str.ofString "") (z :: r)).cps.toList = _
    rw [Str.cps_append, Str.cps_append, Array.toList_append, Array.toList_append, ih]
    show y.cps.toList ++ [] ++ _ = y.cps.toList ++ _
    rw [List.append_nil]
    rfl
theorem str_eq_iff (a b : Str) : a = b ↔ a.cps.toList = b.cps.toList := by
  obtain ⟨⟨x⟩⟩ := a
  obtain ⟨⟨y⟩⟩ := b
  simp
section
variable {prog : Program} {w : World} {A : Around} {E : Value → Shared → Prop} {s : Shared} {h₀ : Heap} {L l : Addr} {m : Str → Option Value} {news : List (Addr × Obj)} {value slice : PySem.Expr} {vu : Value} {y : Int} {Q : Value → Shared → Prop} {fs : List Bool} {n : Nat}
theorem pick_up (vs : List Value) (h : 0 ≤ y) : kms_pick vs none (some y) = vs.take y.toNat := by
  unfold kms_pick kms_lo kms_hi
  simp only [List.drop_zero, Nat.sub_zero]
  rw [if_neg (by omega), List.take_eq_take_iff]
  omega
theorem pick_from (vs : List Value) (h : 0 ≤ y) : kms_pick vs (some y) none = vs.drop y.toNat := by
  unfold kms_pick kms_lo kms_hi
  simp only []
  rw [if_neg (by omega)]
  rcases Nat.le_total y.toNat vs.length with h1 | h1
  · rw [Nat.min_eq_left h1, List.take_of_length_le (by simp)]
  · rw [Nat.min_eq_right h1, List.drop_length, List.drop_of_length_le h1]; simp
end
section
variable {prog : Program} {w : World} {A : Around} {E : Value → Shared → Prop} {s : Shared} {h₀ : Heap} {L l b : Addr} {m : Str → Option Value} {news : List (Addr × Obj)} {value slice : PySem.Expr} {vu : Value} {y : Int} {Q : Value → Shared → Prop} {vs ws : List Value} {n : Nat}
theorem slV_up (F : Fr h₀ L s.heap m) (N : News h₀ L s.heap news) (hm : (l, W.listOf vs.toArray n) ∈ news) (pu : IsPart vu (some y)) (h0 : 0 ≤ y) (hz : vs.length ≤ 1000000)
    (h : ∀ D h', Fr h₀ L h' m → News h₀ L h' ((D, W.listOf (vs.take y.toNat).toArray 0) :: news) → (∀ p ∈ news, p.1 < D) → Q (.ref D) { s with heap := h' })
    (hs : subscripted slice false (.ref l) (.ref s.heap.objs.size) = operate [.ref s.heap.objs.size, .ref l] (getItem (.ref l) (.ref s.heap.objs.size)) := by with_unfolding_all rfl) (ht : ∀ r, letTemporaryGo value (.ref l) r = pure () := by kmk_pure) :
    wpAny (model prog w) A (subscriptTail value slice (.ref l) (.ref s.heap.objs.size)) Q E { s with heap := s.heap.push { cls := .type "slice", data := .fields #[.none, vu, .none] } } := by
  refine kms_slice_lit F N (isListN N hm) .none pu (pick_up _ h0) (fun D h' F' N' l1 => h D h' F' ?_ l1) hs ht ?_
  · exact N'
  · show vs.length ≤ 2 ^ 24
    omega
theorem slV_from (F : Fr h₀ L s.heap m) (N : News h₀ L s.heap news) (hm : (l, W.listOf vs.toArray n) ∈ news) (pu : IsPart vu (some y)) (h0 : 0 ≤ y) (hz : vs.length ≤ 1000000)
    (h : ∀ D h', Fr h₀ L h' m → News h₀ L h' ((D, W.listOf (vs.drop y.toNat).toArray 0) :: news) → (∀ p ∈ news, p.1 < D) → Q (.ref D) { s with heap := h' })
    (hs : subscripted slice false (.ref l) (.ref s.heap.objs.size) = operate [.ref s.heap.objs.size, .ref l] (getItem (.ref l) (.ref s.heap.objs.size)) := by with_unfolding_all rfl) (ht : ∀ r, letTemporaryGo value (.ref l) r = pure () := by kmk_pure) :
    wpAny (model prog w) A (subscriptTail value slice (.ref l) (.ref s.heap.objs.size)) Q E { s with heap := s.heap.push { cls := .type "slice", data := .fields #[vu, .none, .none] } } := by
  refine kms_slice_lit F N (isListN N hm) pu .none (pick_from _ h0) (fun D h' F' N' l1 => h D h' F' ?_ l1) hs ht ?_
  · exact N'
  · show vs.length ≤ 2 ^ 24
    omega
theorem addV {n2 : Nat} (F : Fr h₀ L s.heap m) (N : News h₀ L s.heap news) (hm : (l, W.listOf vs.toArray n) ∈ news) (hm2 : (b, W.listOf ws.toArray n2) ∈ news) (hz : vs.length ≤ 1000000) (hz2 : ws.length ≤ 1000000)
    (h : ∀ D h', Fr h₀ L h' m → News h₀ L h' ((D, W.listOf (vs ++ ws).toArray 0) :: news) → (∀ p ∈ news, p.1 < D) → Q (.ref D) { s with heap := h' }) :
    wpAny (model prog w) A (binaryOp .Add (.ref l) (.ref b)) Q E s := by
  refine add_arrays F N (isListN N hm) (isListN N hm2) (fun h' F' N' => h _ h' F' N' fun p hp => Heap.lt_size (N p hp).1) ?_
  show vs.length + ws.length ≤ 2 ^ 24
  omega
end
theorem ints_drop : ∀ {vs : List Value} {ns : List Int} (k : Nat), IntsAre vs ns → IntsAre (vs.drop k) (ns.drop k)
  | _, _, 0, h => h
  | _, _, k + 1, .nil => .nil
  | _, _, k + 1, .cons a t r => by simpa using ints_drop k r
theorem ints_app : ∀ {vs ws : List Value} {ns ms : List Int}, IntsAre vs ns → IntsAre ws ms → IntsAre (vs ++ ws) (ns ++ ms)
  | _, _, _, _, .nil, h => h
  | _, _, _, _, .cons a t r, h => .cons a t (ints_app r h)
def OkS (v : Str) : Prop := ∀ c ∈ v.cps.toList, c < 1114112
theorem okS_iff (v : Str) : PyData.strOk v = true ↔ OkS v := by
  unfold PyData.strOk OkS
  rw [← Array.all_toList, List.all_eq_true]
  simp
theorem canLayS : ∀ ns : List Str, (∀ x ∈ ns, OkS x) → PyData.canLayAll0 (ns.map PyData.str) = true
  | [], _ => rfl
  | a :: r, h => by
    have h1 := (okS_iff a).mpr (h a (List.mem_cons_self ..))
    simp [PyData.canLayAll0, PyData.canLay0, h1, canLayS r fun x hx => h x (List.mem_cons_of_mem _ hx)]
theorem depthS : ∀ ns : List Str, PyData.depthAll (ns.map PyData.str) = 0
  | [] => rfl
  | _ :: r => by simp [PyData.depthAll, PyData.depth, depthS r]
theorem shapedS (ns : List Str) (ok : ∀ x ∈ ns, OkS x) : SeqAt.shaped (.list (ns.map PyData.str)) = true := by
  simp [SeqAt.shaped, PyData.canLay0, PyData.depth, canLayS ns ok, depthS]
theorem sameS : ∀ ns ms : List Str, PySem.Spec.sameAll (ns.map PyData.str) (ms.map PyData.str) = decide (ns = ms)
  | [], [] => by simp [PySem.Spec.sameAll]
  | [], _ :: _ => by simp [PySem.Spec.sameAll]
  | _ :: _, [] => by simp [PySem.Spec.sameAll]
  | a :: r, b :: t => by
    simp only [List.map_cons, PySem.Spec.sameAll, PySem.Spec.same, sameS r t]
    by_cases h : a = b <;> by_cases h' : r = t <;> simp [h, h']
theorem sameLS (ns ms : List Str) : PySem.Spec.same (.list (ns.map PyData.str)) (.list (ms.map PyData.str)) = decide (ns = ms) := by
  simp only [PySem.Spec.same]; exact sameS ns ms
theorem carriedS : ∀ {vs : List Value} {ns : List Str}, StrsAre vs ns → CarriedAll vs (ns.map PyData.str)
  | _, _, .nil => .nil
  | _, _, .cons _ t r => .cons (.str _ t) (carriedS r)
section
variable {prog : Program} {w : World} {A : Around} {E : Value → Shared → Prop} {s : Shared} {a b : Addr} {xs ys : List Value} {ns ms : List Str} {Q : Value → Shared → Prop}
theorem eq_strs (ha : s.heap.IsList a xs.toArray) (hb : s.heap.IsList b ys.toArray) (hi : StrsAre xs ns) (hj : StrsAre ys ms) (ok : ∀ x ∈ ns, OkS x) (ok2 : ∀ x ∈ ms, OkS x) (hu : A.units + 64 < cLine) (h : Q (.bool (decide (ns = ms))) s) :
    wpAny (model prog w) A (compareOp .Eq (.ref a) (.ref b)) Q E s :=
  eq_dataH_same (reads_newData ha (carriedS hi)) (reads_newData hb (carriedS hj)) (shapedS _ ok) (shapedS _ ok2) hu (SeqAt.noMix_of_shape (.list .str) rfl _ _ (list_map_has fun _ => rfl) (list_map_has fun _ => rfl)) (by rw [sameLS]; exact h)
theorem ne_strs (ha : s.heap.IsList a xs.toArray) (hb : s.heap.IsList b ys.toArray) (hi : StrsAre xs ns) (hj : StrsAre ys ms) (ok : ∀ x ∈ ns, OkS x) (ok2 : ∀ x ∈ ms, OkS x) (hu : A.units + 64 < cLine) (h : Q (.bool (!decide (ns = ms))) s) :
    wpAny (model prog w) A (compareOp .NotEq (.ref a) (.ref b)) Q E s :=
  ne_dataH_same (reads_newData ha (carriedS hi)) (reads_newData hb (carriedS hj)) (shapedS _ ok) (shapedS _ ok2) hu (SeqAt.noMix_of_shape (.list .str) rfl _ _ (list_map_has fun _ => rfl) (list_map_has fun _ => rfl)) (by rw [sameLS]; exact h)
end
theorem okS_tok (q : Bool) (c : Nat) (h : c < 1114112) : ∀ d ∈ tok q c, d < 1114112 := by
  intro d
  unfold tok
  repeat' split
  all_goals (simp only [List.mem_cons, List.not_mem_nil, or_false]; omega)
theorem okS_esc (v : Str) (q : Bool) (h : OkS v) : OkS (escS v q) := by
  intro d hd
  have hd : d ∈ v.cps.toList.flatMap (tok q) := hd
  obtain ⟨c, hc, hd⟩ := List.mem_flatMap.mp hd
  exact okS_tok q c (h c hc) d hd
theorem okS_app {a b : Str} (ha : OkS a) (hb : OkS b) : OkS (a ++ b) := by
  intro d hd
  rw [Str.cps_append, Array.toList_append] at hd
  rcases List.mem_append.mp hd with hd | hd
  · exact ha d hd
  · exact hb d hd
theorem strs_of : ∀ {ys : List Value} {g : Nat → Str}, (∀ (i : Nat) y, ys[i]? = some y → ∃ t, y = Value.str (g i) t) → StrsAre ys ((List.range ys.length).map g)
  | [], _, _ => .nil
  | y :: r, g, h => by
    obtain ⟨t, e⟩ := h 0 y rfl
    have ih := strs_of (ys := r) (g := fun i => g (i + 1)) fun i y' hy => h (i + 1) y' (by simpa using hy)
    rw [e, List.length_cons, List.range_succ_eq_map, List.map_cons, List.map_map]
    exact .cons _ t ih
theorem len_N {prog : Program} {w : World} {A : Around} {E : Value → Shared → Prop} {s : Shared} {l : Addr} {vs : List Value} {Q : Value → Shared → Prop} (hl : s.heap.IsList l vs.toArray) (hn : vs.length ≤ 1000000) (h : Q (.int (vs.length : Nat) (s.toks + 1)) { s with toks := s.toks + 1 + 1 }) : wpAny (model prog w) A (call (.builtin "len") [.ref l]) Q E s :=
  PyProof.Rows.len_list hl (by simp; omega) h
theorem item_N {prog : Program} {w : World} {A : Around} {E : Value → Shared → Prop} {s : Shared} {value slice : Expr} {l : Addr} {vs : List Value} {i : Nat} {u : Tok} {x : Value} {Q : Value → Shared → Prop} (hl : s.heap.IsList l vs.toArray)
    (hb : i ≤ 1000000) (hx : vs[i]? = some x) (h : Q x s)
    (hs : subscripted slice false (.ref l) (.int ((i : Nat) : Int) u) = operate [.ref l, .int ((i : Nat) : Int) u] (getItem (.ref l) (.int ((i : Nat) : Int) u))) (hg : ∀ r, letTemporaryGo value (.ref l) r = pure ()) :
    wpAny (model prog w) A (subscriptTail value slice (.ref l) (.int ((i : Nat) : Int) u)) Q E s :=
  PyProof.Rows.item_list hl (by omega) (by omega) (by simpa using hx) h hs hg
theorem ne_strs_same {prog : Program} {w : World} {A : Around} {E : Value → Shared → Prop} {s : Shared} {a b : Addr} {xs ys : List Value} {ns : List Str} {Q : Value → Shared → Prop} (ha : s.heap.IsList a xs.toArray) (hb : s.heap.IsList b ys.toArray) (hi : StrsAre xs ns) (hj : StrsAre ys ns) (ok : ∀ x ∈ ns, OkS x) (hu : A.units + 64 < cLine) (h : Q (.bool false) s) :
    wpAny (model prog w) A (compareOp .NotEq (.ref a) (.ref b)) Q E s := ne_strs ha hb hi hj ok ok hu (by simpa using h)
theorem news_sub {h₀ h : Heap} {L : Addr} {X Y : List (Addr × Obj)} (N : News h₀ L h Y) (hs : ∀ p ∈ X, p ∈ Y) : News h₀ L h X := fun p hp => N p (hs p hp)
theorem news_cons {h₀ h : Heap} {L : Addr} {p : Addr × Obj} {Y : List (Addr × Obj)} (N : News h₀ L h Y) (hm : p ∈ Y) : News h₀ L h (p :: Y) := fun q hq => by
  rcases List.mem_cons.mp hq with e | hq
  · rw [e]; exact N p hm
  · exact N q hq
theorem news_cons2 {h₀ h : Heap} {L : Addr} {p q : Addr × Obj} {Y : List (Addr × Obj)} (N : News h₀ L h Y) (hm : p ∈ Y) (hm2 : q ∈ Y) : News h₀ L h (p :: q :: Y) := news_cons (news_cons N hm2) (List.mem_cons_of_mem _ hm)
theorem item_C {prog : Program} {w : World} {A : Around} {E : Value → Shared → Prop} {s : Shared} {value slice : Expr} {l : Addr} {vs : List Value} {k : Int} {u : Tok} {x : Value} {Q : Value → Shared → Prop} (hl : s.heap.IsList l vs.toArray)
    (h0 : 0 ≤ k) (hb : k ≤ 1000000) (hx : vs[k.toNat]? = some x) (h : Q x s)
    (hs : subscripted slice false (.ref l) (.int k u) = operate [.ref l, .int k u] (getItem (.ref l) (.int k u))) (hg : ∀ r, letTemporaryGo value (.ref l) r = pure ()) :
    wpAny (model prog w) A (subscriptTail value slice (.ref l) (.int k u)) Q E s :=
  PyProof.Rows.item_list hl h0 (by omega) (by simpa using hx) h hs hg
theorem allLt_lt {d : Addr} : ∀ {l : List (Addr × Obj)}, AllLt d l → ∀ p ∈ l, p.1 < d
  | [], _ => fun _ h => nomatch h
  | p :: r, h => fun q hq => by
    rcases List.mem_cons.mp hq with e | hq
    · subst e; exact h.1
    · exact allLt_lt h.2 q hq
theorem allNe1 {d : Addr} {l : List (Addr × Obj)} (h : ∀ p ∈ l, p.1 < d) : ∀ p ∈ l, p.1 ≠ d + 1 := fun p hp => by
  have := h p hp
  show p.1 ≠ Nat.succ d
  exact Nat.ne_of_lt (Nat.lt_succ_of_lt this)
theorem allLt_ne1 {d : Addr} {l : List (Addr × Obj)} (h : AllLt d l) : ∀ p ∈ l, p.1 ≠ d + 1 := allNe1 (allLt_lt h)
end Mine
end
section
open PySem PySem.W PyProof.Rows PySem.Spec PySem.Calls PyProof.V
namespace Mine
def El (news : List (Addr × Obj)) (G : Nat → Value → Prop) (i : Nat) (y : Value) (news' : List (Addr × Obj)) : Prop := news' = news ∧ G i y
section
variable {prog : Program} {w : World} {A : Around} {E : Value → Shared → Prop} {s : Shared} {env : Env} {h₀ : Heap} {L : Addr} {m : Str → Option Value}
theorem walkS2 (hh : A.handled = none) (x₀ : Str) (t : Tok) (I : Addr) (h : Heap) (ho : h.get? I = some { cls := .type (strIterType x₀), data := .fields #[.str x₀ t, .int 0 0] }) :
    ∃ St : Nat → Heap → Prop, Walks prog w A I [I] [I] x₀.cps.size (SignAt x₀) St ∧ St 0 h ∧ (∀ i h, St i h → ∃ o, h.get? I = some o) ∧ (∀ i (h h' : Heap) o, St i h → h.get? I = some o → h'.get? I = some o → St i h') := by
  cases ha : x₀.cps.all (· < 128)
  · refine ⟨_, Walks.strWide hh I x₀ t, ⟨_, ho, by simp [strIterType, ha], rfl⟩, ?_, ?_⟩
    · rintro i h ⟨o, e, _⟩; exact ⟨o, e⟩
    · rintro i h h' o ⟨o', e, r⟩ e1 e2
      rw [e] at e1; injection e1 with e1; subst e1; exact ⟨_, e2, r⟩
  · refine ⟨_, Walks.strAscii hh I x₀ t, ⟨_, ho, by simp [strIterType, ha], rfl⟩, ?_, ?_⟩
    · rintro i h ⟨o, e, _⟩; exact ⟨o, e⟩
    · rintro i h h' o ⟨o', e, r⟩ e1 e2
      rw [e] at e1; injection e1 with e1; subst e1; exact ⟨_, e2, r⟩
def TextSrc (prog : Program) (w : World) (A : Around) (h₀ : Heap) (L : Addr) (m : Str → Option Value) (env : Env) (elt : Expr) (x : Str) (scope : Scope) (cl : List (Str × Addr)) (Fin : Shared → List Value → List (Addr × Obj) → Prop) (xv : Value) (s₁ : Shared) : Prop :=
  ∃ x₀ t news, xv = .str x₀ t ∧ A.handled = none ∧ Fr h₀ L s₁.heap m ∧ News h₀ L s₁.heap news ∧ x₀.cps.size ≤ sizeLine ∧
    ∀ g, LCg.CompRest prog w A h₀ L m env elt x scope cl { s₁ with heap := g } (fun _ => True) (SignAt x₀) (Fin { s₁ with heap := g }) x₀.cps.size 0 [] news
theorem TextSrc.intro {elt : Expr} {x : Str} {scope : Scope} {cl : List (Str × Addr)} {Fin : Shared → List Value → List (Addr × Obj) → Prop} {s₁ : Shared} {x₀ : Str} {t : Tok} {news : List (Addr × Obj)}
    (hh : A.handled = none) (F : Fr h₀ L s₁.heap m) (N : News h₀ L s₁.heap news) (hz : x₀.cps.size ≤ 1000000)
    (h : ∀ g, LCg.CompRest prog w A h₀ L m env elt x scope cl { s₁ with heap := g } (fun _ => True) (SignAt x₀) (Fin { s₁ with heap := g }) x₀.cps.size 0 [] news) :
    TextSrc prog w A h₀ L m env elt x scope cl Fin (.str x₀ t) s₁ := ⟨x₀, t, news, rfl, hh, F, N, by show x₀.cps.size ≤ 2 ^ 24; omega, h⟩
theorem ListComp_T {elt iter : Expr} {x : Str} {px : Pos} {scope : Scope} {cl : List (Str × Addr)} {pos : Pos} {Q : Value → Shared → Prop} (F₀ : Fr h₀ L s.heap m)
    (hclos : closureFor scope env = pure cl) (hcell : ∀ y ∈ scope.names, y.2 ≠ .cell) (hkind : scope.kind = .function)
    (hnames : ∀ y ∈ scope.names, y.2 = .local → scope.names.lookup y.1 = some .local) (hx : scope.names.lookup x = some .local)
    (h : wpAny (model prog w) A (eval iter env) (TextSrc prog w A h₀ L m env elt x scope cl (fun s₂ => LCg.FinE h₀ L m s₂ Q)) E s)
    (hs : ∀ x, foldedSetIterable iter env x = pure x := by intro _; rfl) :
    wpAny (model prog w) A (eval (.ListComp elt [⟨.Name x px, iter, [], 0⟩] scope pos) env) Q E s := by
  rw [eval_ListComp]
  refine wpAny_comprehension_free (use := none) rfl hs hclos hkind hnames (wpAny_mono h (fun xv s₁ h₁ => ?_) fun _ _ e => e)
  obtain ⟨x₀, t, news, rfl, hh, F, N, hsz, R⟩ := h₁
  refine wpAny_pyIter_strU ?_
  obtain ⟨St, W, hst, hIo, hSt⟩ := walkS2 (prog := prog) (w := w) hh x₀ t s₁.heap.objs.size (s₁.heap.push { cls := .type (strIterType x₀), data := .fields #[.str x₀ t, .int 0 0] }) (Heap.get?_push_size _ rfl)
  refine LCg.block_U W hsz hIo (fun i h h' o nw st e e' _ _ _ => hSt i h h' o st e e') hcell hkind hx hst (fun b hb => ?_)
    (F.keeps fun _ _ e => Heap.get?_push_of_some _ e) (N.grown fun _ _ e => Heap.get?_push_of_some _ e) (Nat.ne_of_lt F.ns.lt) (next_is_new F) (fun p hp => Nat.ne_of_lt (Heap.lt_size (N p hp).1)) trivial (R _) ?_
  · rw [List.mem_singleton.mp hb]
    show s₁.heap.objs.size < (s₁.heap.push _).objs.size
    rw [Heap.size_push]; exact Nat.lt_succ_self _
  · intro D C h tk m' ys news' F' N' o1 hn hC₀ hD₀ hCL hDL hCD offC fin
    refine ⟨m', hn, fun h'' hs'' => fin D h'' tk (F'.change hs'' hCL hC₀) (fun p hp => ?_) o1⟩
    refine ⟨hs''.extBut _ _ ?_ (N' p hp).1, (N' p hp).2⟩
    rcases List.mem_cons.mp hp with rfl | hp
    · exact Ne.symm hCD
    · exact offC p hp
end
section
variable {prog : Program} {w : World} {A : Around} {h₀ : Heap} {L : Addr} {m : Str → Option Value} {env : Env} {elt : PySem.Expr} {x : Str} {scope : Scope} {cl : List (Str × Addr)} {s : Shared} {S : List (Addr × Obj) → Prop} {P : Nat → Value → Prop} {Fin : List Value → List (Addr × Obj) → Prop} {news : List (Addr × Obj)}
theorem compG {n : Nat} (G : Nat → Value → Prop)
    (turn : ∀ i v I oI C oC D m₂ ys h tk (E' : Value → Shared → Prop), i < n → P i v → LCg.NsObj oC m₂ → m₂ x = some v → Fr h₀ L h m → News h₀ L h ((I, oI) :: (C, oC) :: (D, LCg.lst ys) :: news) → LCg.Off3 I C D news → ((@Ne Nat I C) ∧ (@Ne Nat I D) ∧ (@Ne Nat C D)) →
      wpAny (model prog w) A (eval elt (compEnvC scope cl C env)) (LCg.CompEnd h₀ L m { s with heap := h, toks := tk } I oI C oC D (LCg.lst ys) S (El news G i)) E' { s with heap := h, toks := tk })
    (fin : ∀ ys, ys.length = n → (∀ i y, ys[i]? = some y → G i y) → Fin ys news) : LCg.CompRest prog w A h₀ L m env elt x scope cl s S P Fin n 0 [] news := by
  have key : ∀ (j i : Nat) (ys : List Value), i + j = n → ys.length = i → (∀ i y, ys[i]? = some y → G i y) → LCg.CompRest prog w A h₀ L m env elt x scope cl s S P Fin j i ys news := by
    intro j
    induction j with
    | zero =>
      intro i ys hi hl hy
      exact LCg.CompRest.zero (fin ys (by omega) hy)
    | succ j ih =>
      intro i ys hi hl hy
      refine LCg.CompRest.succ ?_
      rintro v I oI C oC D m₂ h tk E' hP hC hx F N off ne
      refine wpAny_mono (turn i v I oI C oC D m₂ ys h tk E' (by omega) hP hC hx F N off ne) (fun y s₂ hq => ?_) fun _ _ e => e
      obtain ⟨h', tk', nw, e, F', N', off', hS, hn, hg⟩ := hq
      rw [hn] at N' off' hS
      refine ⟨h', tk', news, e, F', N', off', hS, ?_⟩
      refine ih (i + 1) _ (by omega) (by simp [hl]) ?_
      intro i' y' h'
      rcases Nat.lt_or_ge i' ys.length with hlt | hge
      · rw [List.getElem?_append_left hlt] at h'
        exact hy i' y' h'
      · rw [List.getElem?_append_right hge] at h'
        have : i' - ys.length = 0 := by
          rcases Nat.eq_zero_or_pos (i' - ys.length) with h0 | hp
          · exact h0
          · rw [List.getElem?_eq_none (show [y].length ≤ _ from hp)] at h'; cases h'
        rw [this] at h'
        have e1 : y = y' := by simpa using h'
        have e2 : i' = i := by omega
        rw [← e1, e2]; exact hg
  exact key n 0 [] (by omega) rfl (by intro i y h; simp at h)
theorem compR {S : List (Addr × Obj) → Prop} {n : Nat} {a : Int} (G : Nat → Value → Prop)
    (turn : ∀ i t I oI C oC D m₂ ys h tk (E' : Value → Shared → Prop), i < n → LCg.NsObj oC m₂ → m₂ x = some (.int (a + (i : Int)) t) → Fr h₀ L h m → News h₀ L h ((I, oI) :: (C, oC) :: (D, LCg.lst ys) :: news) → LCg.Off3 I C D news → ((@Ne Nat I C) ∧ (@Ne Nat I D) ∧ (@Ne Nat C D)) →
      wpAny (model prog w) A (eval elt (compEnvC scope cl C env)) (LCg.CompEnd h₀ L m { s with heap := h, toks := tk } I oI C oC D (LCg.lst ys) S (El news G i)) E' { s with heap := h, toks := tk })
    (fin : ∀ ys, ys.length = n → (∀ i y, ys[i]? = some y → G i y) → Fin ys news) : LCg.CompRest prog w A h₀ L m env elt x scope cl s S (fun i v => ∃ t, v = .int (a + (i : Int)) t) Fin n 0 [] news := by
  have key : ∀ (j i : Nat) (ys : List Value), i + j = n → ys.length = i → (∀ i y, ys[i]? = some y → G i y) → LCg.CompRest prog w A h₀ L m env elt x scope cl s S (fun i v => ∃ t, v = .int (a + (i : Int)) t) Fin j i ys news := by
    intro j
    induction j with
    | zero =>
      intro i ys hi hl hy
      exact LCg.CompRest.zero (fin ys (by omega) hy)
    | succ j ih =>
      intro i ys hi hl hy
      refine LCg.CompRest.succ ?_
      rintro v I oI C oC D m₂ h tk E' ⟨t, hv⟩ hC hx F N off ne
      rw [hv] at hx
      refine wpAny_mono (turn i t I oI C oC D m₂ ys h tk E' (by omega) hC hx F N off ne) (fun y s₂ hq => ?_) fun _ _ e => e
      obtain ⟨h', tk', nw, e, F', N', off', hS, hn, hg⟩ := hq
      rw [hn] at N' off' hS
      refine ⟨h', tk', news, e, F', N', off', hS, ?_⟩
      refine ih (i + 1) _ (by omega) (by simp [hl]) ?_
      intro i' y' h'
      rcases Nat.lt_or_ge i' ys.length with hlt | hge
      · rw [List.getElem?_append_left hlt] at h'
        exact hy i' y' h'
      · rw [List.getElem?_append_right hge] at h'
        have : i' - ys.length = 0 := by
          rcases Nat.eq_zero_or_pos (i' - ys.length) with h0 | hp
          · exact h0
          · rw [List.getElem?_eq_none (show [y].length ≤ _ from hp)] at h'; cases h'
        rw [this] at h'
        have e1 : y = y' := by simpa using h'
        have e2 : i' = i := by omega
        rw [← e1, e2]; exact hg
  exact key n 0 [] (by omega) rfl (by intro i y h; simp at h)
end
end Mine
end
section
open PySem PySem.W PyProof.Rows
namespace Mine
noncomputable abbrev PG := PySem.Challenge.rw_mg0011_02.row.prog
noncomputable abbrev KF (w : World) : Frag := Mine.hd.heap_39 w.params
noncomputable abbrev VW := Mine.hd.view_39
noncomputable abbrev LS := looseW Mine.hd.view_39 [Str.ofString "escape"] ++ List.map (fun x => x.name) (recsOf Mine.hd.view_39) ++ List.map (fun x => x.fst) (litsOf Mine.hd.view_39) ++ List.map (fun x => x.name) (clssOf Mine.hd.view_39 (looseW Mine.hd.view_39 [Str.ofString "escape"]))
abbrev Claim (k : Nat) (w : World) (mean : ExcName → Option Value) (mg mb : Str → Option Value) (f : Addr) (news : List (Addr × Obj)) (pre : Prop) (vs : List Value)
   (Ret : Heap → Heap → Addr → (Str → Option Value) → Shared → (Value → Shared → Prop) → Prop) : Prop :=
  ∀ (dp un : Nat) (gd : _) (cn : Str) (cs : Scope) (a : Addr) (ccd : Value) (cl : _) (outer : List Env) (A₀ : Around) (base h₀ : Heap) (L : Addr) (m : Str → Option Value) (s : Shared) (Q : Value → Shared → Prop) (E : Value → Shared → Prop),
    Below A₀ base outer h₀ → Fr h₀ L s.heap m → (KF w).In h₀ → News h₀ L s.heap news → Top topProg LS mean mg mb h₀ → cs.kind = .function →
    pre → dp + k < recursionLimit → un + 8 * k < cLine → Ret base h₀ L m s Q →
      wpAny (model PG w) (ktrTop dp un gd cn cs L a ccd cl outer) (call (.ref f) vs) Q E s
local macro_rules | `(tactic| cell_enter) => `(tactic| (refine' code_def ?k1 ?k2 ?k3 ?k4 ?k5 ?kA ?kF ?kK ?k6 ?k7 ?k8 ?k9 ?kB ?_ ?c2 ?c3 ?c4 ?c5; (case kA => exact rfl); (case kF => exact rfl); (case kK => assumption); (case k1 => k_asm); (case k2 => k_asm); (case k3 => k_asm); (case k4 => k_asm); (case k5 => k_asm); (case k6 => k_is); (case k7 => k_is); (case k8 => ktr_room); (case k9 => first | exact BindsTo.of_eq rfl | exact binds_K (by k_in) rfl (by k_is) rfl rfl rfl); (case c5 => decide); (case kB => exact locs rfl); (case c2 => exact rfl); (case c3 => exact rfl); (case c4 => exact rfl); k_whole; intro g' L' h' FG' F' N' B' X' T'; (try dsimp only); (try k_lift B'); (try k_fold)))
local macro_rules | `(tactic| walk_at "execs cons") => `(tactic| ((with_reducible refine wpAny_execs_cons ?_); try dsimp only))
theorem escape_c {w mean mg mb news} (v : Str) (t : Tok) (q : Bool) : Claim 2 w mean mg mb 22 news (v.length ≤ 900) [.str v t, .bool q] (fun base h₀ L m s Q =>
     ∀ t h' tk', Fr h₀ L h' m → News h₀ L h' news → Q (.str (escS v q) t) {s with heap := h', toks := tk'}) := by
  dsimp only [Claim, PG, KF, VW, LS]; k_fill; intros; rename_i hret
  refine wpAny_call ?_
  k_dflt cell_enter
  cases q
  · iterate 11 (first | walk1 | (dsimp only; walk1))
    refine' rep ?k1 ?k2 ?k3 ?k4 ?k5 ?k6 ?k7 ?k8 ?_
    case k7 => exact rfl
    case k4 => assumption
    case k5 => decide
    case k6 => decide
    case k8 => omega
    case k1 => (try dsimp only); first | exact Nat.succ_ne_zero _ | omega | exact Nat.ne_of_gt (by omega)
    case k2 => (try dsimp only); first | exact Nat.succ_ne_zero _ | omega
    case k3 => (try dsimp only); first | exact Nat.ne_of_lt (Nat.lt_succ_self _) | omega
    intro t' k hk hl
    (try dsimp only at hk)
    (try dsimp only)
    iterate 12 (first | walk1 | (dsimp only; walk1))
    refine' rep ?k1 ?k2 ?k3 ?k4 ?k5 ?k6 ?k7 ?k8 ?_
    case k7 => exact rfl
    case k4 => assumption
    case k5 => decide
    case k6 => decide
    case k8 => omega
    case k1 => (try dsimp only); first | exact Nat.succ_ne_zero _ | omega | exact Nat.ne_of_gt (by omega)
    case k2 => (try dsimp only); first | exact Nat.succ_ne_zero _ | omega
    case k3 => (try dsimp only); first | exact Nat.ne_of_lt (Nat.lt_succ_self _) | omega
    intro t' k hk hl
    (try dsimp only at hk)
    (try dsimp only)
    iterate 12 (first | walk1 | (dsimp only; walk1))
    refine' rep ?k1 ?k2 ?k3 ?k4 ?k5 ?k6 ?k7 ?k8 ?_
    case k7 => exact rfl
    case k4 => assumption
    case k5 => decide
    case k6 => decide
    case k8 => omega
    case k1 => (try dsimp only); first | exact Nat.succ_ne_zero _ | omega | exact Nat.ne_of_gt (by omega)
    case k2 => (try dsimp only); first | exact Nat.succ_ne_zero _ | omega
    case k3 => (try dsimp only); first | exact Nat.ne_of_lt (Nat.lt_succ_self _) | omega
    intro t' k hk hl
    (try dsimp only at hk)
    (try dsimp only)
    k_steps
    rw [← esc3 v] at hret
    exact hret _ _ _ (by assumption) (by assumption)
  · iterate 11 (first | walk1 | (dsimp only; walk1))
    refine' rep ?k1 ?k2 ?k3 ?k4 ?k5 ?k6 ?k7 ?k8 ?_
    case k7 => exact rfl
    case k4 => assumption
    case k5 => decide
    case k6 => decide
    case k8 => omega
    case k1 => (try dsimp only); first | exact Nat.succ_ne_zero _ | omega | exact Nat.ne_of_gt (by omega)
    case k2 => (try dsimp only); first | exact Nat.succ_ne_zero _ | omega
    case k3 => (try dsimp only); first | exact Nat.ne_of_lt (Nat.lt_succ_self _) | omega
    intro t' k hk hl
    (try dsimp only at hk)
    (try dsimp only)
    iterate 12 (first | walk1 | (dsimp only; walk1))
    refine' rep ?k1 ?k2 ?k3 ?k4 ?k5 ?k6 ?k7 ?k8 ?_
    case k7 => exact rfl
    case k4 => assumption
    case k5 => decide
    case k6 => decide
    case k8 => omega
    case k1 => (try dsimp only); first | exact Nat.succ_ne_zero _ | omega | exact Nat.ne_of_gt (by omega)
    case k2 => (try dsimp only); first | exact Nat.succ_ne_zero _ | omega
    case k3 => (try dsimp only); first | exact Nat.ne_of_lt (Nat.lt_succ_self _) | omega
    intro t' k hk hl
    (try dsimp only at hk)
    (try dsimp only)
    iterate 12 (first | walk1 | (dsimp only; walk1))
    refine' rep ?k1 ?k2 ?k3 ?k4 ?k5 ?k6 ?k7 ?k8 ?_
    case k7 => exact rfl
    case k4 => assumption
    case k5 => decide
    case k6 => decide
    case k8 => omega
    case k1 => (try dsimp only); first | exact Nat.succ_ne_zero _ | omega | exact Nat.ne_of_gt (by omega)
    case k2 => (try dsimp only); first | exact Nat.succ_ne_zero _ | omega
    case k3 => (try dsimp only); first | exact Nat.ne_of_lt (Nat.lt_succ_self _) | omega
    intro t' k hk hl
    (try dsimp only at hk)
    (try dsimp only)
    iterate 18 (first | walk1 | (dsimp only; walk1))
    refine' rep ?k1 ?k2 ?k3 ?k4 ?k5 ?k6 ?k7 ?k8 ?_
    case k7 => exact rfl
    case k4 => assumption
    case k5 => decide
    case k6 => decide
    case k8 => omega
    case k1 => (try dsimp only); first | exact Nat.succ_ne_zero _ | omega | exact Nat.ne_of_gt (by omega)
    case k2 => (try dsimp only); first | exact Nat.succ_ne_zero _ | omega
    case k3 => (try dsimp only); first | exact Nat.ne_of_lt (Nat.lt_succ_self _) | omega
    intro t' k hk hl
    (try dsimp only at hk)
    (try dsimp only)
    iterate 12 (first | walk1 | (dsimp only; walk1))
    refine' rep ?k1 ?k2 ?k3 ?k4 ?k5 ?k6 ?k7 ?k8 ?_
    case k7 => exact rfl
    case k4 => assumption
    case k5 => decide
    case k6 => decide
    case k8 => omega
    case k1 => (try dsimp only); first | exact Nat.succ_ne_zero _ | omega | exact Nat.ne_of_gt (by omega)
    case k2 => (try dsimp only); first | exact Nat.succ_ne_zero _ | omega
    case k3 => (try dsimp only); first | exact Nat.ne_of_lt (Nat.lt_succ_self _) | omega
    intro t' k hk hl
    (try dsimp only at hk)
    (try dsimp only)
    k_steps
    rw [← esc5 v] at hret
    exact hret _ _ _ (by assumption) (by assumption)
end Mine
end
section
open PySem PySem.W PyProof.Rows PyProof.Rows.LSm
namespace Mine
section
variable {prog : Program} {w : World} {A : Around} {E : Value → Shared → Prop} {s : Shared} {h₀ : Heap} {L lp : Addr} {m : Str → Option Value} {rest : List (Addr × Obj)} {vs : List Value} {n : Nat} {t : Tok} {v x : Value}
theorem set_last {Q : Unit → Shared → Prop} (F : Fr h₀ L s.heap m) (N : News h₀ L s.heap ((lp, W.listOf vs.toArray n) :: rest)) (off : ∀ p ∈ rest, p.1 ≠ lp) (hne : 1 ≤ vs.length) (hz : vs.length ≤ 1000000)
    (h : ∀ h', Fr h₀ L h' m → News h₀ L h' ((lp, W.listOf (vs.dropLast ++ [v]).toArray n) :: rest) → Q () { s with heap := h' }) :
    wpAny (model prog w) A (setItem (.ref lp) (.int (-1) t) v) Q E s := by
  have z := N _ (List.Mem.head _)
  have hs : vs.toArray.size = vs.length := by simp
  have hidx : ((-1 : Int) + (vs.toArray.size : Int)).toNat = vs.length - 1 := by rw [hs]; omega
  refine ki_setBack z.1 (by decide) (by rw [hs]; omega) (by decide) (h _ (F.change (Heap.SameBut.update ..) z.2.1 z.2.2) ?_)
  have e : vs.toArray.setIfInBounds ((-1 : Int) + (vs.toArray.size : Int)).toNat v = (vs.dropLast ++ [v]).toArray := by
    rw [hidx]
    apply Array.toList_inj.mp
    simp only [Array.toList_setIfInBounds, List.toList_toArray]
    rcases List.eq_nil_or_concat vs with e | ⟨r, a, e⟩
    · subst e; simp at hne
    · rw [List.concat_eq_append] at e
      subst e; simp
  have := ki_turn (pre := []) (post := rest) (D := lp) (its := vs.toArray) (n := n) (n' := n) (fun a => a.setIfInBounds ((-1 : Int) + (vs.toArray.size : Int)).toNat v) N (by intro p hp; cases hp) off e (by rw [← e]; simp)
  exact this
theorem get_last {Q : Value → Shared → Prop} (N : News h₀ L s.heap rest) (hm : (lp, W.listOf vs.toArray n) ∈ rest) (hx : vs[vs.length - 1]? = some x) (h : Q x s) : wpAny (model prog w) A (getItem (.ref lp) (.int (-1) t)) Q E s := by
  have hp : 1 ≤ vs.length := by
    cases vs with
    | nil => simp at hx
    | cons a b => simp
  have hs : vs.toArray.size = vs.length := by simp
  refine wpAny_getItem_list_neg (isListN N hm) (by decide) (by rw [hs]; omega) (by decide) ?_ h
  rw [hs, show ((-1 : Int) + (vs.length : Int)).toNat = vs.length - 1 by omega]
  simpa using hx
end
end Mine
end
section
open PySem PySem.W PyProof.Rows PyProof.Rows.LSm
namespace Mine
section
local macro_rules | `(tactic| cell_enter) => `(tactic| first | (refine' code_defC ?k1 ?k2 ?k3 ?k4 ?k5 ?kA ?kF ?kK ?k6 ?k7 ?k8 ?k9 ?kB ?kD ?_ ?c2 ?c3 ?c4; (case kA => exact rfl); (case kF => exact rfl); (case kK => assumption); (case k1 => k_asm); (case k2 => k_asm); (case k3 => k_asm); (case k4 => k_asm); (case k5 => k_asm); (case k6 => k_is); (case k7 => k_is); (case k8 => ktr_room); (case k9 => exact BindsTo.of_eq rfl); (case kB => exact rfl); (case kD => decide +kernel); (case c2 => exact rfl); (case c3 => exact rfl); (case c4 => exact rfl); k_whole; intro g' L' h' tk' cells' FG' F' N' Y' B' X' T' l1; (try k_lt l1); k_cells Y'; (try simp only [List.cons_append, List.nil_append] at N'); (try dsimp only); (try k_lift B'); (try k_fold)) | (refine' code_def ?k1 ?k2 ?k3 ?k4 ?k5 ?kA ?kF ?kK ?k6 ?k7 ?k8 ?k9 ?kB ?_ ?c2 ?c3 ?c4 ?c5; (case kA => exact rfl); (case kF => exact rfl); (case kK => assumption); (case k1 => k_asm); (case k2 => k_asm); (case k3 => k_asm); (case k4 => k_asm); (case k5 => k_asm); (case k6 => k_is); (case k7 => k_is); (case k8 => ktr_room); (case k9 => first | exact BindsTo.of_eq rfl | exact binds_K (by k_in) rfl (by k_is) rfl rfl rfl); (case c5 => decide); (case kB => exact locs rfl); (case c2 => exact rfl); (case c3 => exact rfl); (case c4 => exact rfl); k_whole; intro g' L' h' FG' F' N' B' X' T'; (try dsimp only); (try k_lift B'); (try k_fold)))
local macro_rules | `(tactic| ktr_rel) => `(tactic| repeat' (first | (k_unfold; (try dsimp only)) | walk1 | (dsimp only; walk1) | (leave1; try dsimp only) | fail "no step"))
local macro_rules | `(tactic| ktr_call $c $d) => `(tactic| (refine hold ?_; refine' $c _ _ _ _ _ _ _ _ _ _ _ _ _ _ _ _ _ ?k1 ?k2 ?k3 ?k4 ?k5 ?kK ?kp ?kd ?ku ?kR; (case k1 => k_asm); (case k2 => k_asm); (case k3 => k_asm); (case k4 => first | k_asm | (refine' news_cons ?kN ?km; (case kN => k_asm); (case km => k_mem)) | (refine' news_cons2 ?kN ?km ?kl; (case kN => k_asm); (case km => k_mem); (case kl => k_mem))); (case k5 => k_asm); (case kK => exact rfl); (case kp => exact $d); (case kd => ktr_room); (case ku => ktr_units)))
local macro_rules | `(tactic| walk_at "call ref") => `(tactic| refine unhold ?_)
local macro_rules | `(tactic| walk_at "pyIter ref") => `(tactic| refine unhold ?_)
local macro_rules | `(tactic| walk_at "CompEnd") => `(tactic| refine unhold ?_)
local macro_rules | `(tactic| walk_at "exec For Name Call cons nil") => `(tactic| (k_here; (rename Fr _ _ _ _ => lF'); k_dflt (refine forV lF' (by rfl) (by rfl) (by passes_own) (by intro _; rfl) ?_)))
local macro_rules | `(tactic| walk_at "exec For Name Name cons nil") => `(tactic| (k_here; (rename Fr _ _ _ _ => lF'); k_dflt (refine forV lF' (by rfl) (by rfl) (by passes_own) (by intro _; rfl) ?_)))
local macro_rules | `(tactic| walk_at "exec For Name Subscript cons nil") => `(tactic| (k_here; (rename Fr _ _ _ _ => lF'); k_dflt (refine forV lF' (by rfl) (by rfl) (by passes_own) (by intro _; rfl) ?_)))
local macro_rules | `(tactic| walk_at "call builtin:len") => `(tactic| (k_here; k_dflt (refine' len_N ?k1 ?k2 ?_; (case k1 => is_list); (case k2 => omega))))
local macro_rules | `(tactic| walk_at "call type:range") => `(tactic| ((rename Fr _ _ _ _ => F'); (rename News _ _ _ _ => N'); (with_unfolding_all refine range1_rows F' N' ?_; intro _ _ _ _ _ _ _ _ _)))
local macro_rules | `(tactic| walk_at "CompSrc") => `(tactic| (k_here; k_dflt (refine' LCg.CompSrc.range ?k1 ?k2 ?k3 ?k4 ?k5 ?k6 ?k7 ?_; (case k1 => rfl); (case k2 => k_asm); (case k3 => k_asm); (case k4 => assumption); (case k5 => first | exact small_one (by omega) (by omega) (by omega) (by omega) | decide); (case k6 => first | exact rangeSize_nat _ _ | rfl); (case k7 => (rw [PySem.sizeLine_eq]; omega))); intro g'; refine unhold ?_))
local macro_rules | `(tactic| walk_at "subscriptTail Name Slice ref ref") => `(tactic| (k_here; k_dflt (first
  | (refine' slV_up ?F ?N ?m ?p ?h0 ?z ?_ ?s ?t; (case F => k_asm); (case N => k_asm); (case m => k_mem); (case p => kmk_part); (case h0 => first | omega | decide); (case z => first | omega | exact Nat.le_of_ble_eq_true rfl); (case s => with_unfolding_all rfl); (case t => kmk_pure))
  | (refine' slV_from ?F ?N ?m ?p ?h0 ?z ?_ ?s ?t; (case F => k_asm); (case N => k_asm); (case m => k_mem); (case p => kmk_part); (case h0 => first | omega | decide); (case z => first | omega | exact Nat.le_of_ble_eq_true rfl); (case s => with_unfolding_all rfl); (case t => kmk_pure))); intro D' h' F' N' l1; (try k_lt l1); (try k_sweep)))
local macro_rules | `(tactic| walk_at "subscriptTail Name Name ref int") => `(tactic| (k_here; k_dflt (refine' item_N ?l ?b ?x ?_ ?s ?g; (case x => assumption); (case l => (rename News _ _ _ _ => hNN; exact isListN hNN (by k_mem))); (case b => omega); (case s => with_unfolding_all rfl); (case g => (intro _; with_unfolding_all rfl)))))
local macro_rules | `(tactic| walk_at "subscriptTail Name Constant ref int") => `(tactic| (k_here; k_dflt (refine' item_C ?l ?a ?b ?x ?_ ?s ?g; (case x => assumption); (case l => (rename News _ _ _ _ => hNN; exact isListN hNN (by k_mem))); (case a => decide); (case b => decide); (case s => with_unfolding_all rfl); (case g => (intro _; with_unfolding_all rfl)))))
local macro_rules | `(tactic| k_updF) => `(tactic| first | (refine' UpdF.head ?a; (case a => first | exact allNe1 (by assumption) | exact allLt_ne1 (by assumption) | exact allLt_ne (by assumption))) | (refine' UpdF.tail ?a ?b; (case a => first | assumption | k_ne); (case b => k_updF)))
local macro_rules | `(tactic| walk_at "pyIter str") => `(tactic| refine unhold ?_)
local macro_rules | `(tactic| walk_at "CompSrc Name") => `(tactic| refine unhold ?_)
local macro_rules | `(tactic| walk_at "eval ListComp") => `(tactic| (k_here; refine unhold ?_))
def pcs2 : List Str := ["&", "<", ">", "\"", "'", "a", "%", "(", "#", ";", "amp;", "lt"].map Str.ofString
theorem pcs2_len (j : Nat) : (pcs2.getD j Str.empty).length ≤ 4 := by
  rcases Nat.lt_or_ge j 12 with h | h
  · have : ∀ j : Fin 12, (pcs2.getD j.1 Str.empty).length ≤ 4 := by decide
    exact this ⟨j, h⟩
  · rw [List.getD_eq_getElem?_getD, List.getElem?_eq_none (show pcs2.length ≤ j from h)]; decide
theorem pcs2_ok (j : Nat) : OkS (pcs2.getD j Str.empty) := by
  rcases Nat.lt_or_ge j 12 with h | h
  · have : ∀ j : Fin 12, ∀ c ∈ (pcs2.getD j.1 Str.empty).cps.toList, c < 1114112 := by decide
    exact this ⟨j, h⟩
  · rw [List.getD_eq_getElem?_getD, List.getElem?_eq_none (show pcs2.length ≤ j from h)]; intro c hc; cases hc
def Txs (i : Nat) (tx : List Str) : Prop := 1 ≤ tx.length ∧ tx.length ≤ 3 + i ∧ ∀ x ∈ tx, x.length ≤ 1 + 4 * i ∧ OkS x
local macro_rules | `(tactic| walk_at "getItem ref int") => `(tactic| refine unhold ?_)
local macro_rules | `(tactic| walk_at "subscriptTail Name Name ref int") => `(tactic| refine unhold ?_)
local macro_rules | `(tactic| walk_at "setItem ref int") => `(tactic| refine unhold ?_)
local macro_rules | `(tactic| walk_at "subscriptTail Name UnaryOp ref int") => `(tactic| refine unhold ?_)
local macro_rules | `(tactic| walk_at "call builtin:list.append") => `(tactic| refine unhold ?_)
theorem txs_last {i : Nat} {tx : List Str} {x y : Str} (h : Txs i tx) (hx : tx[tx.length - 1]? = some x) (hy : y.length ≤ x.length + 4) (ho : OkS y) : Txs (i + 1) (tx.dropLast ++ [y]) := by
  obtain ⟨h1, h2, h3⟩ := h
  have hm := List.mem_of_getElem? hx
  refine ⟨by simp, by simp; omega, fun z hz => ?_⟩
  rcases List.mem_append.mp hz with hz | hz
  · have := h3 z (List.dropLast_subset _ hz)
    exact ⟨by omega, this.2⟩
  · rw [List.mem_singleton.mp hz]
    have := h3 x hm
    exact ⟨by omega, ho⟩
theorem txs_push {i : Nat} {tx : List Str} {y : Str} (h : Txs i tx) (hy : y.length ≤ 5 + 4 * i) (ho : OkS y) : Txs (i + 1) (tx ++ [y]) := by
  obtain ⟨h1, h2, h3⟩ := h
  refine ⟨by simp, by simp; omega, fun z hz => ?_⟩
  rcases List.mem_append.mp hz with hz | hz
  · have := h3 z hz
    exact ⟨by omega, this.2⟩
  · rw [List.mem_singleton.mp hz]
    exact ⟨by omega, ho⟩
theorem strs_last : ∀ {vs : List Value} {ys : List Str} (y : Str) (t : Tok), StrsAre vs ys → StrsAre (vs.dropLast ++ [.str y t]) (ys.dropLast ++ [y])
  | _, _, y, t, .nil => .cons y t .nil
  | _, _, y, t, .cons z u .nil => .cons y t .nil
  | _, _, y, t, .cons z u (.cons z2 u2 r) => .cons z u (strs_last y t (.cons z2 u2 r))
theorem okS_slice {x : Str} {a b : Option Int} (h : OkS x) : OkS (Txt.slice x a b) := by
  intro c hc
  unfold Txt.slice at hc
  split at hc
  · exact h c hc
  · have hc : c ∈ (PySem.Builtin.Str.strSliceIndices a b 1 x.length).filterMap (x.cps[·]?) := by simpa using hc
    obtain ⟨i, _, e⟩ := List.mem_filterMap.mp hc
    exact h c (by have := Array.mem_of_getElem? e; simpa using this)
theorem pick3N {h₀ h : Heap} {L : Addr} {a b c : Addr} {oa ob oc : Obj} {r : List (Addr × Obj)} (_N : News h₀ L h ((a, oa) :: (b, ob) :: (c, oc) :: r)) : ∃ x y z oz, x = a ∧ y = b ∧ z = c ∧ oz = oc := ⟨_, _, _, _, rfl, rfl, rfl, rfl⟩
theorem texts_c {w mean mg mb rest} (ln : Addr) (vs : List Value) (ns : List Int) (n : Nat) (hi : IntsAre vs ns) : Claim 2 w mean mg mb 29 ((ln, W.listOf vs.toArray n) :: rest) (ns.length ≤ 12) [.ref ln] (fun _ h₀ L m s Q =>
     ∀ l h' tk' ts n', (∃ tx, StrsAre ts tx ∧ Txs ns.length tx) → Fr h₀ L h' m → News h₀ L h' ((l, W.listOf ts.toArray n') :: (ln, W.listOf vs.toArray n) :: rest) → Q (.ref l) {s with heap := h', toks := tk'}) := by
  dsimp only [Claim, PG, KF, VW, LS]; k_fill; intros; rename_i hret
  rename (ns.length ≤ 12) => hlen
  refine wpAny_call ?_
  k_dflt cell_enter
  ktr_rel
  refine hold ?_
  rename IntsAre _ _ => hi
  rename Fr _ _ _ _ => FP
  rename News _ _ _ _ => NP
  rename (_ < _ ∧ _ < _ ∧ AllLt _ _) => ho1
  obtain ⟨lp, tp, _, _, e1, e2, _, _⟩ := pick3N NP
  subst e1 e2
  refine iterL (l := ln) (vs := vs) (J := fun i m news => ∃ tvs ts tx n', StrsAre tvs pcs2 ∧ StrsAre ts tx ∧ Txs i tx ∧ m (Str.ofString "texts") = some (.ref lp) ∧ m (Str.ofString "pieces") = some (.ref tp) ∧ news = (lp, W.listOf ts.toArray n') :: (tp, seqObj "tuple" tvs.toArray 0) :: (ln, W.listOf vs.toArray n) :: rest) rfl (isListN NP (List.Mem.tail _ (List.Mem.tail _ (List.Mem.head _)))) (NP _ (List.Mem.tail _ (List.Mem.tail _ (List.Mem.head _)))).2.1 FP NP ?_ ?_ ?_
  · refine ⟨_, _, [Str.ofString "<", Str.ofString ">", Str.ofString "\""], _, ?_, .cons _ _ (.cons _ _ (.cons _ _ .nil)), ⟨by decide, by decide, ?_⟩, rfl, rfl, rfl⟩
    · repeat' constructor
    · have : ∀ x ∈ [Str.ofString "<", Str.ofString ">", Str.ofString "\""], x.length ≤ 1 + 4 * 0 ∧ ∀ c ∈ x.cps.toList, c < 1114112 := by decide
      exact this
  · clear FP NP
    rintro i _ m₁ _ h tk own I hv ⟨tvs, ts, tx, n', htv, hts, hT, h1, h2, rfl⟩ hoff hown hI FP NP
    obtain ⟨k, hk⟩ : ∃ k, ns[i]? = some k := by
      have h3 := hi.length
      have h4 : i < vs.length := by
        rcases Nat.lt_or_ge i vs.length with h | h
        · exact h
        · rw [List.getElem?_eq_none h] at hv; cases hv
      exact ⟨ns[i]'(by omega), by simp⟩
    have hik : i < 12 := by
      rcases Nat.lt_or_ge i ns.length with h | h
      · omega
      · rw [List.getElem?_eq_none h] at hk; cases hk
    obtain ⟨u, hu⟩ := hi.get i k hk
    rw [hu] at hv
    cases hv
    replace FP := frN FP (a := Str.ofString "pieces") (v := .ref tp) (by rw [if_neg (by decide)]; exact h2)
    replace FP := frN FP (a := Str.ofString "texts") (v := .ref lp) (by rw [if_neg (by decide), if_neg (by decide)]; exact h1)
    obtain ⟨x, hx⟩ : ∃ x, tx[tx.length - 1]? = some x := ⟨tx[tx.length - 1]'(by have := hT.1; omega), by simp⟩
    obtain ⟨t5, ht5⟩ := strs_get hts hx
    have htl := strs_len hts
    rw [← htl] at ht5
    have hown2 : ∀ p ∈ (tp, seqObj "tuple" tvs.toArray 0) :: (ln, W.listOf vs.toArray n) :: rest ++ own, p.1 ≠ lp := by
      intro p hp
      rcases List.mem_append.mp hp with hp | hp
      · exact allLt_ne (show AllLt lp ((tp, seqObj "tuple" tvs.toArray 0) :: (ln, W.listOf vs.toArray n) :: rest) from ho1) p hp
      · rcases hown p hp with e | e
        · rw [e]; exact fun e2 => hoff _ (List.Mem.head _) e2.symm
        · rw [e]; exact Nat.ne_of_lt ho1.2.1
    have hoff2 : ∀ o, ∀ p ∈ (lp, o) :: (tp, seqObj "tuple" tvs.toArray 0) :: (ln, W.listOf vs.toArray n) :: rest, p.1 ≠ I := by
      intro o p hp
      rcases List.mem_cons.mp hp with e | hp
      · rw [e]; exact hoff (lp, W.listOf ts.toArray n') (List.Mem.head _)
      · exact hoff p (List.Mem.tail _ hp)
    have hxT := hT.2.2 x (List.mem_of_getElem? hx)
    ktr_rel
    · refine hold ?_
      rename News _ _ _ _ => N5
      refine get_last N5 (List.Mem.head _) ht5 ?_
      ktr_rel
      refine hold ?_
      rename News _ _ _ _ => N4
      refine' item_strsTu (ys := pcs2) (l := tvs) ?k1 htv ?k2 ?k3 ?k4 ?_ ?k5 ?k6
      case k5 => with_unfolding_all rfl
      case k6 => intro _; with_unfolding_all rfl
      case k1 => exact isTupN N4 (List.Mem.tail _ (List.Mem.head _))
      case k2 => exact Int.fmod_nonneg_of_pos _ (by decide)
      case k3 => assumption
      case k4 => have := Int.fmod_lt_of_pos k (show (0 : Int) < 16 by decide); omega
      intro t2
      have hpl := pcs2_len (k.fmod 16).toNat
      have hpo := pcs2_ok (k.fmod 16).toNat
      generalize pcs2.getD (k.fmod 16).toNat Str.empty = pc at *
      refine SB.iadd (fun t3 k3 => ?_) (by show _ ≤ 2 ^ 24; omega)
      try dsimp only
      ktr_rel
      refine hold ?_
      rename Fr _ _ _ _ => F3
      rename News _ _ _ _ => N3
      refine set_last F3 N3 hown2 (by have := hT.1; omega) (by have := hT.2.1; omega) ?_
      intro h9 F9 N9
      ktr_rel
      exact tp_next (news' := (lp, _) :: (tp, seqObj "tuple" tvs.toArray 0) :: (ln, W.listOf vs.toArray n) :: rest) F9 N9 (hoff2 _) ⟨_, _, _, _, htv, strs_last _ _ hts, txs_last hT hx (by rw [Str.length_append]; omega) (okS_app hxT.2 hpo), rfl, rfl, rfl⟩
    · refine hold ?_
      rename News _ _ _ _ => N5
      refine get_last N5 (List.Mem.head _) ht5 ?_
      have hc0 := Int.fmod_nonneg_of_pos (k.fdiv 16) (show (0 : Int) < 1112064 by decide)
      have hc1 := Int.fmod_lt_of_pos (k.fdiv 16) (show (0 : Int) < 1112064 by decide)
      have hone : ∀ z : Int, 0 ≤ z → z < 1114112 → OkS (⟨#[z.toNat]⟩ : Str) := by
        intro z h0 h1 c hc
        have : c = z.toNat := by simpa using hc
        omega
      ktr_rel
      all_goals
        refine hold ?_
        rename Fr _ _ _ _ => F3
        rename News _ _ _ _ => N3
        refine set_last F3 N3 hown2 (by have := hT.1; omega) (by have := hT.2.1; omega) ?_
        intro h9 F9 N9
        ktr_rel
        exact tp_next (news' := (lp, _) :: (tp, seqObj "tuple" tvs.toArray 0) :: (ln, W.listOf vs.toArray n) :: rest) F9 N9 (hoff2 _) ⟨_, _, _, _, htv, strs_last _ _ hts, txs_last hT hx (by rw [Str.length_append]; exact Nat.add_le_add_left (by decide : (1 : Nat) ≤ 4) _) (okS_app hxT.2 (hone _ (by omega) (by omega))), rfl, rfl, rfl⟩
    · refine hold ?_
      rename News _ _ _ _ => N5
      refine last_item (isListN N5 (List.Mem.head _)) ht5 ?_
      ktr_rel
      refine hold ?_
      rename Fr _ _ _ _ => F3
      rename News _ _ _ _ => N3
      refine append_K F3 N3 (Upd.head hown2) ?_ (by show ts.length ≤ 2 ^ 24; have := hT.2.1; omega)
      intro ha Fa Na
      rw [List.push_toArray] at Na
      ktr_rel
      exact tp_next (news' := (lp, _) :: (tp, seqObj "tuple" tvs.toArray 0) :: (ln, W.listOf vs.toArray n) :: rest) Fa Na (hoff2 _) ⟨_, _, _, _, htv, strs_push _ _ hts, txs_push hT (by omega) hxT.2, rfl, rfl, rfl⟩
    · refine hold ?_
      rename News _ _ _ _ => N5
      refine last_item (isListN N5 (List.Mem.head _)) ht5 ?_
      ktr_rel
      refine hold ?_
      rename Fr _ _ _ _ => F3
      rename News _ _ _ _ => N3
      refine append_K F3 N3 (Upd.head hown2) ?_ (by show ts.length ≤ 2 ^ 24; have := hT.2.1; omega)
      intro ha Fa Na
      rw [List.push_toArray] at Na
      ktr_rel
      exact tp_next (news' := (lp, _) :: (tp, seqObj "tuple" tvs.toArray 0) :: (ln, W.listOf vs.toArray n) :: rest) Fa Na (hoff2 _) ⟨_, _, _, _, htv, strs_push _ _ hts, txs_push hT (by have := PyProof.Txt.length_slice_le x none (some (-1)); omega) (okS_slice hxT.2), rfl, rfl, rfl⟩
    · refine hold ?_
      rename Fr _ _ _ _ => F3
      rename News _ _ _ _ => N3
      refine append_K F3 N3 (Upd.head hown2) ?_ (by show ts.length ≤ 2 ^ 24; have := hT.2.1; omega)
      intro ha Fa Na
      rw [List.push_toArray] at Na
      ktr_rel
      exact tp_next (news' := (lp, _) :: (tp, seqObj "tuple" tvs.toArray 0) :: (ln, W.listOf vs.toArray n) :: rest) Fa Na (hoff2 _) ⟨_, _, _, _, htv, strs_push _ _ hts, txs_push hT (by show 0 ≤ _; omega) (by intro c hc; cases hc), rfl, rfl, rfl⟩
  · clear FP NP
    rintro m₁ _ h tk ⟨tvs, ts, tx, n', htv, hts, hT, h1, h2, rfl⟩ FP NP
    rw [hi.length] at hT
    replace FP := frN FP (a := Str.ofString "texts") (v := .ref lp) h1
    try dsimp only
    ktr_rel
    rename News _ _ _ _ => NP
    refine hret _ _ _ ts n' ⟨tx, hts, hT⟩ (by assumption) (news_sub NP ?_)
    intro p hp
    rcases List.mem_cons.mp hp with e | hp
    · rw [e]; exact List.Mem.head _
    · exact List.Mem.tail _ (List.Mem.tail _ hp)
end
end Mine
end
section
open PySem PySem.W PyProof.Rows PyProof.Rows.LSm
namespace Mine
section
local macro_rules | `(tactic| cell_enter) => `(tactic| first | (refine' code_defC ?k1 ?k2 ?k3 ?k4 ?k5 ?kA ?kF ?kK ?k6 ?k7 ?k8 ?k9 ?kB ?kD ?_ ?c2 ?c3 ?c4; (case kA => exact rfl); (case kF => exact rfl); (case kK => assumption); (case k1 => k_asm); (case k2 => k_asm); (case k3 => k_asm); (case k4 => k_asm); (case k5 => k_asm); (case k6 => k_is); (case k7 => k_is); (case k8 => ktr_room); (case k9 => exact BindsTo.of_eq rfl); (case kB => exact rfl); (case kD => decide +kernel); (case c2 => exact rfl); (case c3 => exact rfl); (case c4 => exact rfl); k_whole; intro g' L' h' tk' cells' FG' F' N' Y' B' X' T' l1; (try k_lt l1); k_cells Y'; (try simp only [List.cons_append, List.nil_append] at N'); (try dsimp only); (try k_lift B'); (try k_fold)) | (refine' code_def ?k1 ?k2 ?k3 ?k4 ?k5 ?kA ?kF ?kK ?k6 ?k7 ?k8 ?k9 ?kB ?_ ?c2 ?c3 ?c4 ?c5; (case kA => exact rfl); (case kF => exact rfl); (case kK => assumption); (case k1 => k_asm); (case k2 => k_asm); (case k3 => k_asm); (case k4 => k_asm); (case k5 => k_asm); (case k6 => k_is); (case k7 => k_is); (case k8 => ktr_room); (case k9 => first | exact BindsTo.of_eq rfl | exact binds_K (by k_in) rfl (by k_is) rfl rfl rfl); (case c5 => decide); (case kB => exact locs rfl); (case c2 => exact rfl); (case c3 => exact rfl); (case c4 => exact rfl); k_whole; intro g' L' h' FG' F' N' B' X' T'; (try dsimp only); (try k_lift B'); (try k_fold)))
local macro_rules | `(tactic| ktr_rel) => `(tactic| repeat' (first | (k_unfold; (try dsimp only)) | walk1 | (dsimp only; walk1) | (leave1; try dsimp only) | fail "no step"))
local macro_rules | `(tactic| ktr_call $c $d) => `(tactic| (refine hold ?_; refine' $c _ _ _ _ _ _ _ _ _ _ _ _ _ _ _ _ _ ?k1 ?k2 ?k3 ?k4 ?k5 ?kK ?kp ?kd ?ku ?kR; (case k1 => k_asm); (case k2 => k_asm); (case k3 => k_asm); (case k4 => first | k_asm | (refine' news_cons ?kN ?km; (case kN => k_asm); (case km => k_mem)) | (refine' news_cons2 ?kN ?km ?kl; (case kN => k_asm); (case km => k_mem); (case kl => k_mem))); (case k5 => k_asm); (case kK => exact rfl); (case kp => exact $d); (case kd => ktr_room); (case ku => ktr_units)))
local macro_rules | `(tactic| walk_at "call ref") => `(tactic| refine unhold ?_)
local macro_rules | `(tactic| walk_at "pyIter ref") => `(tactic| refine unhold ?_)
local macro_rules | `(tactic| walk_at "CompEnd") => `(tactic| refine unhold ?_)
local macro_rules | `(tactic| walk_at "exec For Name Call cons nil") => `(tactic| (k_here; (rename Fr _ _ _ _ => lF'); k_dflt (refine forV lF' (by rfl) (by rfl) (by passes_own) (by intro _; rfl) ?_)))
local macro_rules | `(tactic| walk_at "exec For Name Name cons nil") => `(tactic| (k_here; (rename Fr _ _ _ _ => lF'); k_dflt (refine forV lF' (by rfl) (by rfl) (by passes_own) (by intro _; rfl) ?_)))
local macro_rules | `(tactic| walk_at "exec For Name Subscript cons nil") => `(tactic| (k_here; (rename Fr _ _ _ _ => lF'); k_dflt (refine forV lF' (by rfl) (by rfl) (by passes_own) (by intro _; rfl) ?_)))
local macro_rules | `(tactic| walk_at "call builtin:len") => `(tactic| (k_here; k_dflt (refine' len_N ?k1 ?k2 ?_; (case k1 => is_list); (case k2 => omega))))
local macro_rules | `(tactic| walk_at "call type:range") => `(tactic| ((rename Fr _ _ _ _ => F'); (rename News _ _ _ _ => N'); (with_unfolding_all refine range1_rows F' N' ?_; intro _ _ _ _ _ _ _ _ _)))
local macro_rules | `(tactic| walk_at "CompSrc") => `(tactic| (k_here; k_dflt (refine' LCg.CompSrc.range ?k1 ?k2 ?k3 ?k4 ?k5 ?k6 ?k7 ?_; (case k1 => rfl); (case k2 => k_asm); (case k3 => k_asm); (case k4 => assumption); (case k5 => first | exact small_one (by omega) (by omega) (by omega) (by omega) | decide); (case k6 => first | exact rangeSize_nat _ _ | rfl); (case k7 => (rw [PySem.sizeLine_eq]; omega))); intro g'; refine unhold ?_))
local macro_rules | `(tactic| walk_at "subscriptTail Name Slice ref ref") => `(tactic| (k_here; k_dflt (first
  | (refine' slV_up ?F ?N ?m ?p ?h0 ?z ?_ ?s ?t; (case F => k_asm); (case N => k_asm); (case m => k_mem); (case p => kmk_part); (case h0 => first | omega | decide); (case z => first | omega | exact Nat.le_of_ble_eq_true rfl); (case s => with_unfolding_all rfl); (case t => kmk_pure))
  | (refine' slV_from ?F ?N ?m ?p ?h0 ?z ?_ ?s ?t; (case F => k_asm); (case N => k_asm); (case m => k_mem); (case p => kmk_part); (case h0 => first | omega | decide); (case z => first | omega | exact Nat.le_of_ble_eq_true rfl); (case s => with_unfolding_all rfl); (case t => kmk_pure))); intro D' h' F' N' l1; (try k_lt l1); (try k_sweep)))
local macro_rules | `(tactic| walk_at "subscriptTail Name Name ref int") => `(tactic| (k_here; k_dflt (refine' item_N ?l ?b ?x ?_ ?s ?g; (case x => assumption); (case l => (rename News _ _ _ _ => hNN; exact isListN hNN (by k_mem))); (case b => omega); (case s => with_unfolding_all rfl); (case g => (intro _; with_unfolding_all rfl)))))
local macro_rules | `(tactic| walk_at "subscriptTail Name Constant ref int") => `(tactic| (k_here; k_dflt (refine' item_C ?l ?a ?b ?x ?_ ?s ?g; (case x => assumption); (case l => (rename News _ _ _ _ => hNN; exact isListN hNN (by k_mem))); (case a => decide); (case b => decide); (case s => with_unfolding_all rfl); (case g => (intro _; with_unfolding_all rfl)))))
local macro_rules | `(tactic| k_updF) => `(tactic| first | (refine' UpdF.head ?a; (case a => first | exact allNe1 (by assumption) | exact allLt_ne1 (by assumption) | exact allLt_ne (by assumption))) | (refine' UpdF.tail ?a ?b; (case a => first | assumption | k_ne); (case b => k_updF)))
local macro_rules | `(tactic| walk_at "pyIter str") => `(tactic| refine unhold ?_)
local macro_rules | `(tactic| walk_at "CompSrc Name") => `(tactic| refine unhold ?_)
local macro_rules | `(tactic| walk_at "eval ListComp") => `(tactic| (k_here; refine unhold ?_))
def rankZ (q : Bool) (c : Nat) : Int := if c = 38 then 306 else if c = 62 then 307 else if c = 60 then 308 else if q = true ∧ c = 39 then 305 else if q = true ∧ c = 34 then 309 else 8 * (c : Int)
def isR (q : Bool) (c : Nat) : Bool := decide (c = 38 ∨ c = 62 ∨ c = 60 ∨ (q = true ∧ (c = 39 ∨ c = 34)))
def RankAre (q : Bool) (kvs : List (Str × Value)) : Prop := ∀ c, (isR q c = true → ∃ t, valueAt kvs ⟨#[c]⟩ = some (.int (rankZ q c - 304) t)) ∧ (isR q c = false → valueAt kvs ⟨#[c]⟩ = none ∧ rankZ q c = 8 * (c : Int))
theorem va_ne {c k : Nat} (v : Value) (r : List (Str × Value)) (h : c ≠ k) : valueAt ((⟨#[k]⟩, v) :: r) ⟨#[c]⟩ = valueAt r ⟨#[c]⟩ := by
  have : decide ((⟨#[k]⟩ : Str) = ⟨#[c]⟩) = false := decide_eq_false fun e => h (by simpa using e.symm)
  unfold valueAt; rw [List.find?_cons]; simp only [this]
theorem rank_ff {q : Bool} (hq : q = false) (t1 t2 t3 : Tok) : RankAre q [((⟨#[38]⟩ : Str), (Value.int 2 t1)), (⟨#[62]⟩, .int 3 t2), (⟨#[60]⟩, .int 4 t3)] := by
  subst hq
  intro c
  constructor
  · intro h
    have h := of_decide_eq_true h
    simp only [Bool.false_eq_true, false_and, or_false] at h
    rcases h with rfl | rfl | rfl <;> exact ⟨_, rfl⟩
  · intro h
    have h := of_decide_eq_false h
    simp only [Bool.false_eq_true, false_and, or_false] at h
    rw [va_ne _ _ (by omega), va_ne _ _ (by omega), va_ne _ _ (by omega)]
    refine ⟨rfl, ?_⟩
    unfold rankZ
    rw [if_neg (by omega), if_neg (by omega), if_neg (by omega), if_neg (by simp), if_neg (by simp)]
theorem rank_tt {q : Bool} (hq : q = true) (t1 t2 t3 t4 t5 : Tok) : RankAre q [((⟨#[38]⟩ : Str), (Value.int 2 t1)), (⟨#[62]⟩, .int 3 t2), (⟨#[60]⟩, .int 4 t3), (⟨#[39]⟩, .int 1 t4), (⟨#[34]⟩, .int 5 t5)] := by
  subst hq
  intro c
  constructor
  · intro h
    have h := of_decide_eq_true h
    simp only [true_and] at h
    rcases h with rfl | rfl | rfl | rfl | rfl <;> exact ⟨_, rfl⟩
  · intro h
    have h := of_decide_eq_false h
    simp only [true_and] at h
    rw [va_ne _ _ (by omega), va_ne _ _ (by omega), va_ne _ _ (by omega), va_ne _ _ (by omega), va_ne _ _ (by omega)]
    refine ⟨rfl, ?_⟩
    unfold rankZ
    rw [if_neg (by omega), if_neg (by omega), if_neg (by omega), if_neg (by omega), if_neg (by omega)]
theorem off1_ne {D : Addr} : ∀ {l : List (Addr × Obj)}, LCg.Off1 D l → ∀ p ∈ l, p.1 ≠ D
  | [], _ => fun _ h => nomatch h
  | p :: r, h => fun q hq => by
    rcases List.mem_cons.mp hq with e | hq
    · subst e; exact h.1
    · exact off1_ne h.2 q hq
theorem ints_ofL : ∀ {ys : List Value} {l : List Int}, ys.length = l.length → (∀ (i : Nat) y, ys[i]? = some y → ∃ x t, l[i]? = some x ∧ y = Value.int x t) → IntsAre ys l
  | [], [], _, _ => .nil
  | [], _ :: _, h, _ => by simp at h
  | _ :: _, [], h, _ => by simp at h
  | y :: r, a :: l, h, hy => by
    obtain ⟨x, t, e1, e2⟩ := hy 0 y rfl
    have e1 : a = x := by simpa using e1
    subst e1
    rw [e2]
    exact .cons _ t (ints_ofL (by simpa using h) fun i y' h' => by simpa using hy (i + 1) y' (by simpa using h'))
local macro_rules | `(tactic| walk_at "compareOp In str ref") => `(tactic| refine unhold ?_)
local macro_rules | `(tactic| walk_at "subscriptTail Name Name ref str") => `(tactic| refine unhold ?_)
theorem places_c {w mean mg mb news} (v : Str) (t : Tok) (q : Bool) : Claim 4 w mean mg mb 34 news (v.length ≤ 900) [.str v t, .bool q] (fun _ h₀ L m s Q =>
     ∀ l h' tk' vs n', IntsAre vs (v.cps.toList.map (rankZ q)) → (∀ p ∈ news, p.1 ≠ l) → Fr h₀ L h' m → News h₀ L h' ((l, W.listOf vs.toArray n') :: news) → Q (.ref l) {s with heap := h', toks := tk'}) := by
  dsimp only [Claim, PG, KF, VW, LS]; k_fill; intros; rename_i hret
  rename (v.length ≤ 900) => hv
  refine wpAny_call ?_
  k_dflt cell_enter
  ktr_rel
  all_goals
    rename ((_ == sysModules) = false) => hsys
    first
      | (rename (q = true) => hq
         obtain ⟨kvs, hkvs, hD⟩ : ∃ kvs, RankAre q kvs ∧ Obj.IsDictOf (PySem.strKind Challenge.rw_mg0011_02.row.prog w) _ kvs := ⟨_, rank_tt hq _ _ _ _ _, by assumption⟩)
      | (rename (q = false) => hq
         obtain ⟨kvs, hkvs, hD⟩ : ∃ kvs, RankAre q kvs ∧ Obj.IsDictOf (PySem.strKind Challenge.rw_mg0011_02.row.prog w) _ kvs := ⟨_, rank_ff hq _ _ _, by assumption⟩)
    refine hold ?_
    refine ListComp_T (F₀ := by k_asm) (by with_unfolding_all rfl) (by decide) (by rfl) (by decide) (by rfl) ?_
    ktr_rel
    refine TextSrc.intro rfl (by k_asm) (by k_asm) (Nat.le_trans hv (by decide)) ?_
    intro g9
    refine compG (G := fun i y => ∃ x t, (v.cps.toList.map (rankZ q))[i]? = some x ∧ y = .int x t) ?_ ?_
    · rintro i _ I oI C oC D m₂ ys h tk E' hi ⟨c, u, hc, rfl⟩ hC hx F N off ne
      simp only [LCg.Off3] at off
      have hc' : v.cps.toList[i]? = some c := by simpa using hc
      have hr := hkvs c
      cases e : isR q c with
      | true =>
        obtain ⟨t5, ht5⟩ := hr.1 e
        ktr_rel
        refine hold ?_
        refine kda_in (knd := PySem.strKind _ _) (by k_asm) (by k_mem) hD hsys (strKind_is _ _ _ _) true (by rw [ht5]; rfl) ?_
        try dsimp only
        ktr_rel
        refine hold ?_
        refine kda_item (knd := PySem.strKind _ _) (by k_asm) (by k_mem) hD (strKind_is _ _ _ _) ht5 ?_
        try dsimp only
        ktr_rel
        refine hold ?_
        refine LCg.CompEnd.intro (by k_asm) (by k_asm) _ (by kcf_all) (by first | assumption | (simp only [LCg.Off3, and_true]; done) | (simp only [LCg.Off3, and_true]; assumption)) True.intro ⟨rfl, _, _, ?_, rfl⟩
        rw [List.getElem?_map, hc']
        exact congrArg some (by omega)
      | false =>
        obtain ⟨ht5, ht6⟩ := hr.2 e
        ktr_rel
        refine hold ?_
        refine kda_in (knd := PySem.strKind _ _) (by k_asm) (by k_mem) hD hsys (strKind_is _ _ _ _) false (by rw [ht5]; rfl) ?_
        try dsimp only
        ktr_rel
        refine hold ?_
        refine LCg.CompEnd.intro (by k_asm) (by k_asm) _ (by kcf_all) (by first | assumption | (simp only [LCg.Off3, and_true]; done) | (simp only [LCg.Off3, and_true]; assumption)) True.intro ⟨rfl, _, _, ?_, rfl⟩
        rw [List.getElem?_map, hc']
        exact congrArg some ht6
    · intro ys hlen hys
      have hS := ints_ofL (l := v.cps.toList.map (rankZ q)) (by rw [List.length_map]; exact hlen) hys
      ktr_rel
      rename News _ _ _ _ => N9
      rename (_ ∧ _ ∧ LCg.Off1 _ news) => hoff1
      refine hret _ _ _ _ ys.length hS (off1_ne hoff1.2.2) (by assumption) (news_sub N9 ?_)
      intro p hp
      rcases List.mem_cons.mp hp with e | hp
      · rw [e]; exact List.Mem.head _
      · repeat (first | exact hp | apply List.Mem.tail)
end
end Mine
end
section
open PySem PySem.W PyProof.Rows PyProof.Rows.LSm
namespace Mine
section
local macro_rules | `(tactic| cell_enter) => `(tactic| first | (refine' code_defC ?k1 ?k2 ?k3 ?k4 ?k5 ?kA ?kF ?kK ?k6 ?k7 ?k8 ?k9 ?kB ?kD ?_ ?c2 ?c3 ?c4; (case kA => exact rfl); (case kF => exact rfl); (case kK => assumption); (case k1 => k_asm); (case k2 => k_asm); (case k3 => k_asm); (case k4 => k_asm); (case k5 => k_asm); (case k6 => k_is); (case k7 => k_is); (case k8 => ktr_room); (case k9 => exact BindsTo.of_eq rfl); (case kB => exact rfl); (case kD => decide +kernel); (case c2 => exact rfl); (case c3 => exact rfl); (case c4 => exact rfl); k_whole; intro g' L' h' tk' cells' FG' F' N' Y' B' X' T' l1; (try k_lt l1); k_cells Y'; (try simp only [List.cons_append, List.nil_append] at N'); (try dsimp only); (try k_lift B'); (try k_fold)) | (refine' code_def ?k1 ?k2 ?k3 ?k4 ?k5 ?kA ?kF ?kK ?k6 ?k7 ?k8 ?k9 ?kB ?_ ?c2 ?c3 ?c4 ?c5; (case kA => exact rfl); (case kF => exact rfl); (case kK => assumption); (case k1 => k_asm); (case k2 => k_asm); (case k3 => k_asm); (case k4 => k_asm); (case k5 => k_asm); (case k6 => k_is); (case k7 => k_is); (case k8 => ktr_room); (case k9 => first | exact BindsTo.of_eq rfl | exact binds_K (by k_in) rfl (by k_is) rfl rfl rfl); (case c5 => decide); (case kB => exact locs rfl); (case c2 => exact rfl); (case c3 => exact rfl); (case c4 => exact rfl); k_whole; intro g' L' h' FG' F' N' B' X' T'; (try dsimp only); (try k_lift B'); (try k_fold)))
local macro_rules | `(tactic| ktr_rel) => `(tactic| repeat' (first | (k_unfold; (try dsimp only)) | walk1 | (dsimp only; walk1) | (leave1; try dsimp only) | fail "no step"))
local macro_rules | `(tactic| ktr_call $c $d) => `(tactic| (refine hold ?_; refine' $c _ _ _ _ _ _ _ _ _ _ _ _ _ _ _ _ _ ?k1 ?k2 ?k3 ?k4 ?k5 ?kK ?kp ?kd ?ku ?kR; (case k1 => k_asm); (case k2 => k_asm); (case k3 => k_asm); (case k4 => first | k_asm | (refine' news_cons ?kN ?km; (case kN => k_asm); (case km => k_mem)) | (refine' news_cons2 ?kN ?km ?kl; (case kN => k_asm); (case km => k_mem); (case kl => k_mem))); (case k5 => k_asm); (case kK => exact rfl); (case kp => exact $d); (case kd => ktr_room); (case ku => ktr_units)))
local macro_rules | `(tactic| walk_at "call ref") => `(tactic| refine unhold ?_)
local macro_rules | `(tactic| walk_at "pyIter ref") => `(tactic| refine unhold ?_)
local macro_rules | `(tactic| walk_at "CompEnd") => `(tactic| refine unhold ?_)
local macro_rules | `(tactic| walk_at "exec For Name Call cons nil") => `(tactic| (k_here; (rename Fr _ _ _ _ => lF'); k_dflt (refine forV lF' (by rfl) (by rfl) (by passes_own) (by intro _; rfl) ?_)))
local macro_rules | `(tactic| walk_at "exec For Name Name cons nil") => `(tactic| (k_here; (rename Fr _ _ _ _ => lF'); k_dflt (refine forV lF' (by rfl) (by rfl) (by passes_own) (by intro _; rfl) ?_)))
local macro_rules | `(tactic| walk_at "exec For Name Subscript cons nil") => `(tactic| (k_here; (rename Fr _ _ _ _ => lF'); k_dflt (refine forV lF' (by rfl) (by rfl) (by passes_own) (by intro _; rfl) ?_)))
local macro_rules | `(tactic| walk_at "call builtin:len") => `(tactic| (k_here; k_dflt (refine' len_N ?k1 ?k2 ?_; (case k1 => is_list); (case k2 => omega))))
local macro_rules | `(tactic| walk_at "call type:range") => `(tactic| ((rename Fr _ _ _ _ => F'); (rename News _ _ _ _ => N'); (with_unfolding_all refine range1_rows F' N' ?_; intro _ _ _ _ _ _ _ _ _)))
local macro_rules | `(tactic| walk_at "CompSrc") => `(tactic| (k_here; k_dflt (refine' LCg.CompSrc.range ?k1 ?k2 ?k3 ?k4 ?k5 ?k6 ?k7 ?_; (case k1 => rfl); (case k2 => k_asm); (case k3 => k_asm); (case k4 => assumption); (case k5 => first | exact small_one (by omega) (by omega) (by omega) (by omega) | decide); (case k6 => first | exact rangeSize_nat _ _ | rfl); (case k7 => (rw [PySem.sizeLine_eq]; omega))); intro g'; refine unhold ?_))
local macro_rules | `(tactic| walk_at "subscriptTail Name Slice ref ref") => `(tactic| (k_here; k_dflt (first
  | (refine' slV_up ?F ?N ?m ?p ?h0 ?z ?_ ?s ?t; (case F => k_asm); (case N => k_asm); (case m => k_mem); (case p => kmk_part); (case h0 => first | omega | decide); (case z => first | omega | exact Nat.le_of_ble_eq_true rfl); (case s => with_unfolding_all rfl); (case t => kmk_pure))
  | (refine' slV_from ?F ?N ?m ?p ?h0 ?z ?_ ?s ?t; (case F => k_asm); (case N => k_asm); (case m => k_mem); (case p => kmk_part); (case h0 => first | omega | decide); (case z => first | omega | exact Nat.le_of_ble_eq_true rfl); (case s => with_unfolding_all rfl); (case t => kmk_pure))); intro D' h' F' N' l1; (try k_lt l1); (try k_sweep)))
local macro_rules | `(tactic| walk_at "subscriptTail Name Name ref int") => `(tactic| (k_here; k_dflt (refine' item_N ?l ?b ?x ?_ ?s ?g; (case x => assumption); (case l => (rename News _ _ _ _ => hNN; exact isListN hNN (by k_mem))); (case b => omega); (case s => with_unfolding_all rfl); (case g => (intro _; with_unfolding_all rfl)))))
local macro_rules | `(tactic| walk_at "subscriptTail Name Constant ref int") => `(tactic| (k_here; k_dflt (refine' item_C ?l ?a ?b ?x ?_ ?s ?g; (case x => assumption); (case l => (rename News _ _ _ _ => hNN; exact isListN hNN (by k_mem))); (case a => decide); (case b => decide); (case s => with_unfolding_all rfl); (case g => (intro _; with_unfolding_all rfl)))))
local macro_rules | `(tactic| k_updF) => `(tactic| first | (refine' UpdF.head ?a; (case a => first | exact allNe1 (by assumption) | exact allLt_ne1 (by assumption) | exact allLt_ne (by assumption))) | (refine' UpdF.tail ?a ?b; (case a => first | assumption | k_ne); (case b => k_updF)))
local macro_rules | `(tactic| walk_at "pyIter str") => `(tactic| refine unhold ?_)
local macro_rules | `(tactic| walk_at "CompSrc Name") => `(tactic| refine unhold ?_)
local macro_rules | `(tactic| walk_at "eval ListComp") => `(tactic| (k_here; refine unhold ?_))
def tokS (q : Bool) (c : Nat) : Str := ⟨(tok q c).toArray⟩
def spq (q : Bool) (c : Nat) : Bool := decide (c = 38 ∨ c = 60 ∨ c = 62 ∨ (q = true ∧ (c = 34 ∨ c = 39)))
def TokAre (q : Bool) (kvs : List (Str × Value)) : Prop := ∀ c, (spq q c = true → ∃ t, valueAt kvs ⟨#[c]⟩ = some (.str (tokS q c) t)) ∧ (spq q c = false → valueAt kvs ⟨#[c]⟩ = none ∧ tokS q c = ⟨#[c]⟩)
theorem tok_ff {q : Bool} (hq : q = false) (t1 t2 t3 : Tok) : TokAre q [((⟨#[38]⟩ : Str), (Value.str ⟨#[38, 97, 109, 112, 59]⟩ t1)), (⟨#[62]⟩, .str ⟨#[38, 103, 116, 59]⟩ t2), (⟨#[60]⟩, .str ⟨#[38, 108, 116, 59]⟩ t3)] := by
  subst hq
  intro c
  constructor
  · intro h
    have h := of_decide_eq_true h
    simp only [Bool.false_eq_true, false_and, or_false] at h
    rcases h with rfl | rfl | rfl <;> exact ⟨_, rfl⟩
  · intro h
    have h := of_decide_eq_false h
    simp only [Bool.false_eq_true, false_and, or_false] at h
    rw [va_ne _ _ (by omega), va_ne _ _ (by omega), va_ne _ _ (by omega)]
    refine ⟨rfl, ?_⟩
    unfold tokS tok
    rw [if_neg (by omega), if_neg (by omega), if_neg (by omega), if_neg (by simp), if_neg (by simp)]
theorem tok_tt {q : Bool} (hq : q = true) (t1 t2 t3 t4 t5 : Tok) : TokAre q [((⟨#[38]⟩ : Str), (Value.str ⟨#[38, 97, 109, 112, 59]⟩ t1)), (⟨#[62]⟩, .str ⟨#[38, 103, 116, 59]⟩ t2), (⟨#[60]⟩, .str ⟨#[38, 108, 116, 59]⟩ t3), (⟨#[39]⟩, .str ⟨#[38, 35, 120, 50, 55, 59]⟩ t4), (⟨#[34]⟩, .str ⟨#[38, 113, 117, 111, 116, 59]⟩ t5)] := by
  subst hq
  intro c
  constructor
  · intro h
    have h := of_decide_eq_true h
    simp only [true_and] at h
    rcases h with rfl | rfl | rfl | rfl | rfl <;> exact ⟨_, rfl⟩
  · intro h
    have h := of_decide_eq_false h
    simp only [true_and] at h
    rw [va_ne _ _ (by omega), va_ne _ _ (by omega), va_ne _ _ (by omega), va_ne _ _ (by omega), va_ne _ _ (by omega)]
    refine ⟨rfl, ?_⟩
    unfold tokS tok
    rw [if_neg (by omega), if_neg (by omega), if_neg (by omega), if_neg (by omega), if_neg (by omega)]
theorem get_tok {q : Bool} {kvs : List (Str × Value)} (h : TokAre q kvs) (c : Nat) (u : Tok) : ∃ t, (valueAt kvs ⟨#[c]⟩).getD (.str ⟨#[c]⟩ u) = .str (tokS q c) t := by
  cases e : spq q c with
  | true => obtain ⟨t, ht⟩ := (h c).1 e; exact ⟨t, by rw [ht]; rfl⟩
  | false => obtain ⟨h1, h2⟩ := (h c).2 e; exact ⟨u, by rw [h1, h2]; rfl⟩
theorem strs_ofL : ∀ {ys : List Value} {l : List Str}, ys.length = l.length → (∀ (i : Nat) y, ys[i]? = some y → ∃ x t, l[i]? = some x ∧ y = Value.str x t) → StrsAre ys l
  | [], [], _, _ => .nil
  | [], _ :: _, h, _ => by simp at h
  | _ :: _, [], h, _ => by simp at h
  | y :: r, a :: l, h, hy => by
    obtain ⟨x, t, e1, e2⟩ := hy 0 y rfl
    have e1 : a = x := by simpa using e1
    subst e1
    rw [e2]
    exact .cons _ t (strs_ofL (by simpa using h) fun i y' h' => by simpa using hy (i + 1) y' (by simpa using h'))
theorem tok_len6 (q : Bool) (c : Nat) : (tok q c).length ≤ 6 := by
  unfold tok
  (repeat' split) <;> simp
theorem sum_le6 : ∀ (ys : List Str), (∀ y ∈ ys, y.length ≤ 6) → (ys.map (·.length)).sum ≤ 6 * ys.length
  | [], _ => Nat.le_refl _
  | a :: r, h => by
    have h1 := h a (List.mem_cons_self ..)
    have h2 := sum_le6 r fun y hy => h y (List.mem_cons_of_mem _ hy)
    simp only [List.map_cons, List.sum_cons, List.length_cons]
    omega
theorem join_all (q : Bool) (v : Str) : Txt.join (Str.ofString "") (v.cps.toList.map (tokS q)) = escS v q := by
  unfold Txt.join
  rw [StrLaws.glued_eq_join]
  refine str_ext ?_
  rw [join_flat, List.flatMap_map]
  rfl
theorem tok_w2 (q : Bool) (x : List Nat) (h : x.length ≤ 900) : ((x.map (tokS q)).map (·.length)).sum + (x.map (tokS q)).length ≤ 1048576 := by
  have h1 := sum_le6 (x.map (tokS q)) (by
    intro y hy
    obtain ⟨c, _, rfl⟩ := List.mem_map.mp hy
    exact tok_len6 q c)
  have h2 : (x.map (tokS q)).length ≤ 900 := by simp; omega
  omega
theorem escS_len (v : Str) (q : Bool) : (escS v q).length ≤ 6 * v.length := by
  have h : ∀ l : List Nat, (escL q l).length ≤ 6 * l.length := by
    intro l
    induction l with
    | nil => exact Nat.le_refl _
    | cons a r ih =>
      have := tok_len6 q a
      have e : escL q (a :: r) = tok q a ++ escL q r := rfl
      rw [e, List.length_append, List.length_cons]
      omega
  exact h v.cps.toList
local macro_rules | `(tactic| walk_at "call builtin:dict.get") => `(tactic| refine unhold ?_)
local macro_rules | `(tactic| walk_at "call builtin:str.join") => `(tactic| refine unhold ?_)
local macro_rules | `(tactic| walk_at "getMethod ref") => `(tactic| (k_here; k_dflt (refine kdg_method (knd := PySem.strKind _ _) (by k_asm) (by k_mem) (by k_asm) ?_)))
theorem written_c {w mean mg mb news} (v : Str) (t : Tok) (q : Bool) : Claim 4 w mean mg mb 39 news (v.length ≤ 900) [.str v t, .bool q] (fun _ h₀ L m s Q =>
     ∀ t h' tk', Fr h₀ L h' m → News h₀ L h' news → Q (.str (escS v q) t) {s with heap := h', toks := tk'}) := by
  dsimp only [Claim, PG, KF, VW, LS]; k_fill; intros; rename_i hret
  rename (v.length ≤ 900) => hv
  refine wpAny_call ?_
  k_dflt cell_enter
  ktr_rel
  all_goals
    rename ((_ == sysModules) = false) => hsys
    first
      | (rename (q = true) => hq
         obtain ⟨kvs, hkvs, hD⟩ : ∃ kvs, TokAre q kvs ∧ Obj.IsDictOf (PySem.strKind Challenge.rw_mg0011_02.row.prog w) _ kvs := ⟨_, tok_tt hq _ _ _ _ _, by assumption⟩)
      | (rename (q = false) => hq
         obtain ⟨kvs, hkvs, hD⟩ : ∃ kvs, TokAre q kvs ∧ Obj.IsDictOf (PySem.strKind Challenge.rw_mg0011_02.row.prog w) _ kvs := ⟨_, tok_ff hq _ _ _, by assumption⟩)
    refine hold ?_
    refine ListComp_T (F₀ := by k_asm) (by with_unfolding_all rfl) (by decide) (by rfl) (by decide) (by rfl) ?_
    ktr_rel
    refine TextSrc.intro rfl (by k_asm) (by k_asm) (Nat.le_trans hv (by decide)) ?_
    intro g9
    refine compG (G := fun i y => ∃ x t, (v.cps.toList.map (tokS q))[i]? = some x ∧ y = .str x t) ?_ ?_
    · rintro i _ I oI C oC D m₂ ys h tk E' hi ⟨c, u, hc, rfl⟩ hC hx F N off ne
      simp only [LCg.Off3] at off
      obtain ⟨t5, ht5⟩ := get_tok hkvs c u
      ktr_rel
      refine hold ?_
      refine kdg_get2 (knd := PySem.strKind _ _) (by k_asm) (by k_mem) hD hsys (strKind_is _ _ _ _) (valueAt kvs ⟨#[c]⟩) rfl ?_
      rw [ht5]
      try dsimp only
      ktr_rel
      refine hold ?_
      refine LCg.CompEnd.intro (by k_asm) (by k_asm) _ (by kcf_all) (by first | assumption | (simp only [LCg.Off3, and_true]; done) | (simp only [LCg.Off3, and_true]; assumption)) True.intro ⟨rfl, _, t5, ?_, rfl⟩
      have hc' : v.cps.toList[i]? = some c := by simpa using hc
      rw [List.getElem?_map, hc']; rfl
    · intro ys hlen hys
      have hS := strs_ofL (by rw [List.length_map]; exact hlen) hys
      ktr_rel
      refine hold ?_
      rename News _ _ _ _ => N9
      refine join_listW (isListN N9 (List.Mem.head _)) hS (by decide) (tok_w2 q _ hv) ?_
      intro tj kj
      rw [join_all]
      try dsimp only
      ktr_rel
      rename News _ _ _ _ => N8
      refine hret _ _ _ (by assumption) (news_sub N8 ?_)
      intro p hp
      repeat (first | exact hp | apply List.Mem.tail)
end
end Mine
end
section
open PySem PySem.W PyProof.Rows PySem.Spec PySem.Calls PyProof.V
namespace Mine
def clA (x : Str) (px : Pos) (iter : Expr) : Comprehension := ⟨.Name x px, iter, [], 0⟩
abbrev comp2E (elt : Expr) (x x₂ : Str) (px px₂ : Pos) (iter i2 : Expr) (scope : Scope) (pos : Pos) : Expr := .ListComp elt [⟨.Name x px, iter, [], 0⟩, ⟨.Name x₂ px₂, i2, [], 0⟩] scope pos
section
variable {elt iter i2 : Expr} {x x₂ : Str} {px px₂ : Pos} {scope : Scope} {pos : Pos} {it acc : Value} {env : Env}
theorem compTurn2a : compTurn (comp2E elt x x₂ px px₂ iter i2 scope pos) 0 it acc env = (standAt iter.pos >>= fun _ => pyNext it >>= fun r => match r with
      | none => pure (.done .next)
      | some v => letOwnedTupleGo (.Name x px) it v >>= fun _ => assign (.Name x px) env v >>= fun _ =>
        eval i2 env >>= fun y => standAt i2.pos >>= fun _ => foldedSetIterable i2 env y >>= fun y => holding [y] (pyIter y) >>= fun it2 => runOwn (.compStart (comp2E elt x x₂ px px₂ iter i2 scope pos) 1 it2 acc env) env >>= fun _ =>
          again (.compLoop (comp2E elt x x₂ px px₂ iter i2 scope pos) 0 it acc env)) := by rfl
theorem compTurn2b : compTurn (comp2E elt x x₂ px px₂ iter i2 scope pos) 1 it acc env = (standAt i2.pos >>= fun _ => pyNext it >>= fun r => match r with
      | none => pure (.done .next)
      | some v => letOwnedTupleGo (.Name x₂ px₂) it v >>= fun _ => assign (.Name x₂ px₂) env v >>= fun _ =>
        (eval elt env >>= fun x => call (.builtin "list.append") [acc, x] >>= fun _ => pure ()) >>= fun _ =>
          again (.compLoop (comp2E elt x x₂ px px₂ iter i2 scope pos) 1 it acc env)) := by rfl
end
section
variable {prog : Program} {w : World} {A : Around} {E : Value → Shared → Prop} {s : Shared} {elt iter i2 : Expr} {x x₂ : Str} {px px₂ : Pos} {scope : Scope} {pos : Pos} {it acc : Value} {env : Env} {R : Result → Shared → Prop}
theorem loop2b (I : Nat → Shared → Prop)
    (turn : ∀ n s (E' : Value → Shared → Prop), I n s → wpAny (model prog w) A (pyNext it) (fun r s₁ => match r with
      | none => R (.ok .next) s₁
      | some v => wpAny (model prog w) A (assign (.Name x₂ px₂) env v) (fun _ s₂ => wpAny (model prog w) A (eval elt env) (fun x s₃ =>
          wpAny (model prog w) A (call (.builtin "list.append") [acc, x]) (fun _ s₄ => ∃ m, m < n ∧ I m s₄) E' s₃) E' s₂) E' s₁) E' s)
    (n : Nat) (h : I n s) : codeAny (model prog w) A (.compLoop (comp2E elt x x₂ px px₂ iter i2 scope pos) 1 it acc env) R s := by
  refine codeAny_loop rfl I (fun n s hI => ?_) n h
  show wpAny _ _ ((compTurn (comp2E elt x x₂ px px₂ iter i2 scope pos) 1 it acc env).onRaise (fun x => do noteFrame x env; theTreesLotGoes x)) _ _ s
  refine wpAny_noted ?_
  rw [compTurn2b]
  refine wpAny_bind (wpAny_standAt (wpAny_bind (wpAny_mono (turn n s _ hI) (fun r s₁ h₁ => ?_) fun _ _ h' => h')))
  cases r with
  | none => exact wpAny_pure h₁
  | some v =>
    refine wpAny_bind (wpAny_pure ?_)
    exact wpAny_bind (wpAny_mono h₁ (fun _ s₂ h₂ => wpAny_bind (wpAny_bind (wpAny_mono h₂ (fun x s₃ h₃ => wpAny_bind (wpAny_mono h₃
      (fun _ s₄ h₄ => wpAny_pure (wpAny_pure ⟨rfl, h₄⟩)) fun _ _ h' => h')) fun _ _ h' => h'))) fun _ _ h' => h')
theorem start2b (h0 : codeAny (model prog w) A (.compLoop (comp2E elt x x₂ px px₂ iter i2 scope pos) 1 it acc env) R s)
    (h : ∀ E', wpAny (model prog w) A (pyIter it) (fun it' s' => codeAny (model prog w) A (.compLoop (comp2E elt x x₂ px px₂ iter i2 scope pos) 1 it' acc env) R s') E' s) :
    codeAny (model prog w) A (.compStart (comp2E elt x x₂ px px₂ iter i2 scope pos) 1 it acc env) R s := by
  refine codeAny_of_tree ?_
  show wpAny _ _ ((compStart (comp2E elt x x₂ px px₂ iter i2 scope pos) 1 it acc env).onRaise (fun x => do noteFrame x env; standAt theWindowsPlace)) _ _ s
  refine wpAny_notedAt ?_
  unfold compStart
  show wpAny _ _ (ask >>= _) _ _ s
  refine wpAny_bind (wpAny_askSetting (wpAny_ite ?_))
  split
  · first
      | exact wpAny_bind (wpAny_pure (wpAny_pure (And.intro rfl h0)))
      | exact wpAny_pure (And.intro rfl h0)
  · first
      | exact wpAny_bind (wpAny_rule (wpAny_bind (wpAny_standAt (wpAny_bind (wpAny_mono (h _) (fun it' s' h' => wpAny_pure (And.intro rfl h')) fun _ _ x => x)))))
      | (refine wpAny_bind (wpAny_rule ?_); show wpAny _ _ (standAt i2.pos >>= _) _ _ s; exact wpAny_bind (wpAny_standAt (wpAny_bind (wpAny_mono (h _) (fun it' s' h' => wpAny_pure (And.intro rfl h')) fun _ _ x => x))))
theorem loop2a (hs : ∀ x, foldedSetIterable i2 env x = pure x) (I : Nat → Shared → Prop)
    (turn : ∀ n s (E' : Value → Shared → Prop), I n s → wpAny (model prog w) A (pyNext it) (fun r s₁ => match r with
      | none => R (.ok .next) s₁
      | some v => wpAny (model prog w) A (assign (.Name x px) env v) (fun _ s₂ => wpAny (model prog w) A (eval i2 env) (fun y s₃ =>
          wpAny (model prog w) A (pyIter y) (fun it2 s₄ => codeAny (model prog w) A (.compStart (comp2E elt x x₂ px px₂ iter i2 scope pos) 1 it2 acc env) (fun r s₅ => r = .ok .next ∧ ∃ m, m < n ∧ I m s₅) s₄) E' s₃) E' s₂) E' s₁) E' s)
    (n : Nat) (h : I n s) : codeAny (model prog w) A (.compLoop (comp2E elt x x₂ px px₂ iter i2 scope pos) 0 it acc env) R s := by
  refine codeAny_loop rfl I (fun n s hI => ?_) n h
  show wpAny _ _ ((compTurn (comp2E elt x x₂ px px₂ iter i2 scope pos) 0 it acc env).onRaise (fun x => do noteFrame x env; theTreesLotGoes x)) _ _ s
  refine wpAny_noted ?_
  rw [compTurn2a]
  refine wpAny_bind (wpAny_standAt (wpAny_bind (wpAny_mono (turn n s _ hI) (fun r s₁ h₁ => ?_) fun _ _ h' => h')))
  cases r with
  | none => exact wpAny_pure h₁
  | some v =>
    refine wpAny_bind (wpAny_pure ?_)
    refine wpAny_bind (wpAny_mono h₁ (fun _ s₂ h₂ => wpAny_bind (wpAny_mono h₂ (fun y s₃ h₃ => wpAny_bind (wpAny_standAt (wpAny_bind (wpAny_of_eq (hs y) ?_)))) fun _ _ h' => h')) fun _ _ h' => h')
    refine wpAny_bind (wpAny_holding (wpAny_mono h₃ (fun it2 s₄ h₄ => ?_) fun _ _ h' => h'))
    refine wpAny_bind (wpAny_runOwn (h := none) (codeAny_mono h₄ fun r s₅ h₅ => ?_))
    obtain ⟨rfl, h₅⟩ := h₅
    exact wpAny_pure ⟨rfl, h₅⟩
end
end Mine
end
section
open PySem PySem.W PyProof.Rows PySem.Spec PySem.Calls PyProof.V
namespace Mine
inductive Prs (pool : List (Addr × Obj)) : List Value → List (Value × Value) → Prop
  | nil : Prs pool [] []
  | cons {T : Addr} {a b : Value} {n : Nat} {ys : List Value} {ps : List (Value × Value)} (hm : (T, seqObj "tuple" #[a, b] n) ∈ pool) (r : Prs pool ys ps) : Prs pool (.ref T :: ys) ((a, b) :: ps)
theorem Prs.mono {pool pool' : List (Addr × Obj)} (h : ∀ p ∈ pool, p ∈ pool') : ∀ {ys ps}, Prs pool ys ps → Prs pool' ys ps
  | _, _, .nil => .nil
  | _, _, .cons hm r => .cons (h _ hm) (r.mono h)
theorem Prs.snoc {pool : List (Addr × Obj)} {T : Addr} {a b : Value} {n : Nat} (hm : (T, seqObj "tuple" #[a, b] n) ∈ pool) : ∀ {ys ps}, Prs pool ys ps → Prs pool (ys ++ [.ref T]) (ps ++ [(a, b)])
  | _, _, .nil => .cons hm .nil
  | _, _, .cons h r => .cons h (r.snoc hm)
theorem Prs.length {pool : List (Addr × Obj)} : ∀ {ys ps}, Prs pool ys ps → ys.length = ps.length
  | _, _, .nil => rfl
  | _, _, .cons _ r => by simp [r.length]
def pairsV (b1 b2 : Bool) (vs : List Value) : List (Value × Value) := vs.flatMap fun v => [(v, .bool b1), (v, .bool b2)]
theorem pairsV_succ {b1 b2 : Bool} {vs : List Value} {i : Nat} {v : Value} (h : vs[i]? = some v) : pairsV b1 b2 (vs.take (i + 1)) = pairsV b1 b2 (vs.take i) ++ [(v, .bool b1), (v, .bool b2)] := by
  rw [List.take_add_one, h]
  simp [pairsV]
theorem pairsV_length (b1 b2 : Bool) : ∀ (vs : List Value), (pairsV b1 b2 vs).length = 2 * vs.length
  | [] => rfl
  | a :: r => by
    have := pairsV_length b1 b2 r
    simp only [pairsV, List.flatMap_cons, List.length_append, List.length_cons, List.length_nil] at this ⊢
    omega
theorem ltN {a b : Addr} (h : a < b) : @LT.lt Nat instLTNat a b := h
theorem neA {a b : Nat} (h : a < b ∨ b < a) : @Ne Addr a b := by
  rcases h with h | h
  · exact Nat.ne_of_lt h
  · exact Nat.ne_of_gt h
section
variable {prog : Program} {w : World} {A : Around} {E : Value → Shared → Prop} {s : Shared} {h₀ : Heap} {L : Addr} {m : Str → Option Value} {env : Env}
theorem block2 {iter : Expr} {x x₂ : Str} {px px₂ qx qx₂ p1 p2 p3 p4 : Pos} {k1 k2 k3 k4} {scope : Scope} {cl : List (Str × Addr)} {pos : Pos} {s₂ : Shared} {I ax : Addr} {its : List Value} {b1 b2 : Bool} {news : List (Addr × Obj)} {RR : Value → Addr → Result → Shared → Prop}
    (hsz : 2 * its.length ≤ 1000) (hne : ax ≠ I)
    (hcell : ∀ y ∈ scope.names, y.2 ≠ .cell) (hkind : scope.kind = .function) (hx : scope.names.lookup x = some .local) (hx₂ : scope.names.lookup x₂ = some .local) (hxx : x ≠ x₂) (hdx : (x == ("__debug__" : Str)) = false) (hdx₂ : (x₂ == ("__debug__" : Str)) = false) (hh : A.handled = none)
    (hst : s₂.heap.IsListIter I ax 0 ∧ s₂.heap.IsList ax its.toArray) (hIlt : I < s₂.heap.objs.size) (haxlt : ax < s₂.heap.objs.size)
    (F : Fr h₀ L s₂.heap m) (N : News h₀ L s₂.heap news) (hIL : L ≠ I) (hI₀ : h₀.get? I = none) (off : ∀ p ∈ news, p.1 ≠ I)
    (hRR : ∀ D C h tk m' ys pool, Fr h₀ L h m → News h₀ L h ((D, LCg.lst ys) :: (pool ++ news)) → (∀ p ∈ pool ++ news, p.1 ≠ D) → h.Ns C m' → h₀.get? C = none → h₀.get? D = none → C ≠ L → D ≠ L → C ≠ D → (∀ p ∈ pool ++ news, p.1 ≠ C) → (∀ p ∈ news, p.1 < D) → (∀ p ∈ pool, @LT.lt Nat instLTNat D p.1) → Prs pool ys (pairsV b1 b2 its) → RR (.ref D) C (.ok .next) { s₂ with heap := h, toks := tk }) :
    wpAny (model prog w) A (newList []) (fun acc s₃ => wpAny (model prog w) A (newFunctionEnv scope env.globals cl [] env.qual none .none (some env)) (fun cenv s₄ =>
      codeAny (model prog w) A (.compStart (comp2E (.Tuple [.Name x qx, .Name x₂ qx₂] k4 p4) x x₂ px px₂ iter (.Tuple [.Constant (.bool b1) k1 p1, .Constant (.bool b2) k2 p2] k3 p3) scope pos) 0 (.ref I) acc { cenv with scope := relabel scope env }) (RR acc cenv.locals) s₄) E s₃) E s₂ := by
  refine wpAny_newObj_type (wpAny_newFunctionEnv hcell (by intro y hy; simp at hy) (fun h₁ hns₁ hsb₁ => ?_) hkind)
  dsimp only at hns₁ hsb₁ ⊢
  generalize hH2 : s₂.heap.push { cls := .type "list", dict := none, data := .seq ([] : List Value).toArray } = H2 at hns₁ hsb₁ ⊢
  have hC : H2.objs.size = s₂.heap.objs.size + 1 := by rw [← hH2, Heap.size_push]
  have hDC : s₂.heap.objs.size ≠ H2.objs.size := by rw [hC]; exact Nat.ne_of_lt (Nat.lt_succ_self _)
  have below : ∀ b, b < s₂.heap.objs.size → b ≠ H2.objs.size ∧ b ≠ s₂.heap.objs.size := fun b hb => ⟨by rw [hC]; exact Nat.ne_of_lt (Nat.lt_succ_of_lt hb), Nat.ne_of_lt hb⟩
  have old : ∀ b o, s₂.heap.get? b = some o → h₁.get? b = some o := fun b o e => hsb₁.extBut b o (below b (Heap.lt_size e)).1 (Heap.get?_push_of_some _ (hH2 ▸ Heap.get?_push_of_some _ e))
  have hacc : h₁.get? s₂.heap.objs.size = some (LCg.lst []) := hsb₁.extBut _ _ hDC (Heap.get?_push_of_some _ (hH2 ▸ Heap.get?_push_size _ rfl))
  have fresh : ∀ a, s₂.heap.objs.size ≤ a → s₂.heap.get? a = none := fun a ha => by
    cases e : s₂.heap.get? a with
    | none => rfl
    | some o' => exact absurd (Heap.lt_size e) (Nat.not_lt.mpr ha)
  have fresh₀ : ∀ a : Nat, s₂.heap.objs.size ≤ a → h₀.get? a = none := fun a ha => by
    cases e : h₀.get? a with
    | none => rfl
    | some o' => have := F.keep a o' e; rw [fresh a ha] at this; cases this
  have hLlt : @LT.lt Nat instLTNat L s₂.heap.objs.size := F.ns.lt
  have hIlt : @LT.lt Nat instLTNat I s₂.heap.objs.size := hIlt
  have haxlt : @LT.lt Nat instLTNat ax s₂.heap.objs.size := haxlt
  have newsLt : ∀ p ∈ news, @LT.lt Nat instLTNat p.1 s₂.heap.objs.size := fun p hp => Heap.lt_size (N p hp).1
  generalize hDd : s₂.heap.objs.size = D at *
  generalize H2.objs.size = C at *
  have hD₀ : h₀.get? D = none := fresh₀ _ (Nat.le_refl _)
  have hC₀ : h₀.get? C = none := fresh₀ _ (by omega)
  have hDL : D ≠ L := neA (by omega)
  have hCL : C ≠ L := neA (by omega)
  have hCI : I ≠ C := neA (by omega)
  have hDI : I ≠ D := neA (by omega)
  have hCD : C ≠ D := neA (by omega)
  have W := Walks.list (prog := prog) (w := w) hh I ax hne its.toArray
  have hsn : its.toArray.size = its.length := by simp
  rw [hsn] at W
  have hfold : ∀ env' x, foldedSetIterable (.Tuple [.Constant (.bool b1) k1 p1, .Constant (.bool b2) k2 p2] k3 p3) env' x = pure x := fun _ _ => rfl
  have kI : (compEnvC scope cl C env).scope.kind = .function := by simp [compEnvC, relabel, hkind]
  have kx : (compEnvC scope cl C env).kindOf x = some .local := lookup_relabel_local hx
  have kx₂ : (compEnvC scope cl C env).kindOf x₂ = some .local := lookup_relabel_local hx₂
  have kp : ((compEnvC scope cl C env).scope.kind == .class || ((compEnvC scope cl C env).scope.kind == .module && (compEnvC scope cl C env).locals != (compEnvC scope cl C env).globals)) = false := by simp [compEnvC, relabel, hkind]
  have loop : ∀ s₃ : Shared, s₃ = { s₂ with heap := h₁, toks := s₂.toks + ([] : List (Str × Value)).length } →
      codeAny (model prog w) A (.compLoop (comp2E (.Tuple [.Name x qx, .Name x₂ qx₂] k4 p4) x x₂ px px₂ iter (.Tuple [.Constant (.bool b1) k1 p1, .Constant (.bool b2) k2 p2] k3 p3) scope pos) 0 (.ref I) (.ref D) (compEnvC scope cl C env))
        (RR (.ref D) C) s₃ := by
    rintro s₃ rfl
    refine loop2a (hfold _)
      (fun k s' => ∃ h' tk i ys m' pool, s' = { s₂ with heap := h', toks := tk } ∧ i ≤ its.length ∧ k = its.length + 1 - i ∧ (h'.IsListIter I ax i ∧ h'.IsList ax its.toArray) ∧ Fr h₀ L h' m ∧ h'.Ns C m' ∧ News h₀ L h' ((D, LCg.lst ys) :: (pool ++ news)) ∧
        (∀ p ∈ pool ++ news, p.1 ≠ I ∧ p.1 ≠ C ∧ p.1 ≠ D) ∧ (∀ p ∈ pool, @LT.lt Nat instLTNat D p.1) ∧ Prs pool ys (pairsV b1 b2 (its.take i))) ?_ (its.length + 1)
      ⟨h₁, _, 0, [], _, [], rfl, Nat.zero_le _, rfl, W.frame _ _ _ hst fun b _ o e => old b o e, F.keeps old, hns₁, fun p hp => ?_, fun p hp => ?_, (by intro p hp; cases hp), by exact .nil⟩
    · rintro k s' E' ⟨h', tk, i, ys, m', pool, rfl, hi, rfl, hst', F', hn', N', off', gt', P'⟩
      have hDlt' : @LT.lt Nat instLTNat D h'.objs.size := Heap.lt_size (N' _ (List.mem_cons_self ..)).1
      have hClt' : @LT.lt Nat instLTNat C h'.objs.size := hn'.lt
      by_cases hlt : i < its.length
      · refine W.item i _ _ _ hlt hst' fun v h₂ tk₂ hPv hst₂ hk₂ => ?_
        have hv : its[i]? = some v := by simpa using hPv
        refine wpAny_assign_Name (wpAny_storeName_local kx (hn'.at' fun o e => hk₂ _ o (by simpa using Ne.symm hCI) e) (fun h₃ hn₃ hs₃ => ?_) kp)
        have hs₃ : Heap.SameBut C h₂ h₃ := hs₃
        have hn₃ : h₃.Ns C (fun y => if y = x then some v else m' y) := hn₃
        have F₂ : Fr h₀ L h₂ m := LCg.fr_but F' hk₂ hIL hI₀
        have N₂ : News h₀ L h₂ ((D, LCg.lst ys) :: (pool ++ news)) := LCg.news_but N' hk₂ fun p hp => by
          rcases List.mem_cons.mp hp with rfl | hp
          · exact Ne.symm hDI
          · exact (off' p hp).1
        have F₃ : Fr h₀ L h₃ m := F₂.change hs₃ hCL hC₀
        have N₃ : News h₀ L h₃ ((D, LCg.lst ys) :: (pool ++ news)) := fun p hp => by
          refine ⟨hs₃.extBut _ _ ?_ (N₂ p hp).1, (N₂ p hp).2⟩
          rcases List.mem_cons.mp hp with rfl | hp
          · exact Ne.symm hCD
          · exact (off' p hp).2.1
        have hst₃ : h₃.IsListIter I ax (i + 1) ∧ h₃.IsList ax its.toArray := ⟨hst₂.1.extBut hs₃.extBut hCI, hst₂.2.extBut hs₃.extBut (neA (by omega))⟩
        refine wpAny_Tuple (wpAny_items_cons (wpAny_Constant_bool (wpAny_items_cons (wpAny_Constant_bool (wpAny_items_nil ?_)))))
        refine ⟨by rw [sizeLine_eq]; exact Nat.le_of_ble_eq_true rfl, ?_⟩
        dsimp only
        generalize hH4 : h₃.push { cls := .type "tuple", data := .seq [Value.bool b1, Value.bool b2].toArray } = h₄
        have hT₄ : IsTup h₄ h₃.objs.size #[.bool b1, .bool b2] := by rw [← hH4]; exact ⟨_, Heap.get?_push_size _ rfl, rfl, _, rfl⟩
        have up₄ : ∀ b o, h₃.get? b = some o → h₄.get? b = some o := by rw [← hH4]; exact fun b o e => Heap.get?_push_of_some _ e
        have sz₄ : h₄.objs.size = h₃.objs.size + 1 := by rw [← hH4, Heap.size_push]
        refine iter_tuple hT₄ ?_
        dsimp only
        generalize hH5 : h₄.push { cls := .type "tuple_iterator", data := .fields #[.ref h₃.objs.size, .int 0 0] } = h₅
        have up₅ : ∀ b o, h₃.get? b = some o → h₅.get? b = some o := by rw [← hH5]; exact fun b o e => Heap.get?_push_of_some _ (up₄ b o e)
        have hI₅ : IsTupIter h₅ h₄.objs.size h₃.objs.size 0 := by rw [← hH5]; exact ⟨_, Heap.get?_push_size _ rfl, rfl, rfl⟩
        have hT₅ : IsTup h₅ h₃.objs.size #[.bool b1, .bool b2] := by rw [← hH5]; exact hT₄.push _
        have hDlt₃ : @LT.lt Nat instLTNat D h₃.objs.size := Heap.lt_size (N₃ _ (List.mem_cons_self ..)).1
        have hClt₃ : @LT.lt Nat instLTNat C h₃.objs.size := hn₃.lt
        have newsLt₃ : ∀ p ∈ pool ++ news, @LT.lt Nat instLTNat p.1 h₃.objs.size := fun p hp => Heap.lt_size (N₃ p (List.mem_cons_of_mem _ hp)).1
        have hIlt₃ : @LT.lt Nat instLTNat I h₃.objs.size := by obtain ⟨o, e, _⟩ := hst₃.1; exact Heap.lt_size e
        have haxlt₃ : @LT.lt Nat instLTNat ax h₃.objs.size := by obtain ⟨o, e, _⟩ := hst₃.2; exact Heap.lt_size e
        have hLlt₃ : @LT.lt Nat instLTNat L h₃.objs.size := F₃.ns.lt
        rw [sz₄] at hI₅ ⊢
        generalize hT0 : h₃.objs.size = T0 at *
        have fr3 : ∀ a : Nat, T0 ≤ a → h₀.get? a = none := fun a ha => by
          cases e : h₀.get? a with
          | none => rfl
          | some o' => have := ltN (Heap.lt_size (F₃.keep a o' e)); omega
        have inner : codeAny (model prog w) A (.compLoop (comp2E (.Tuple [.Name x qx, .Name x₂ qx₂] k4 p4) x x₂ px px₂ iter (.Tuple [.Constant (.bool b1) k1 p1, .Constant (.bool b2) k2 p2] k3 p3) scope pos) 1 (.ref (T0 + 1)) (.ref D) (compEnvC scope cl C env))
            (fun r s₅ => r = .ok .next ∧ ∃ k', k' < its.length + 1 - i ∧ ∃ h' tk i' ys m' pool, s₅ = { s₂ with heap := h', toks := tk } ∧ i' ≤ its.length ∧ k' = its.length + 1 - i' ∧ (h'.IsListIter I ax i' ∧ h'.IsList ax its.toArray) ∧ Fr h₀ L h' m ∧ h'.Ns C m' ∧ News h₀ L h' ((D, LCg.lst ys) :: (pool ++ news)) ∧
              (∀ p ∈ pool ++ news, p.1 ≠ I ∧ p.1 ≠ C ∧ p.1 ≠ D) ∧ (∀ p ∈ pool, @LT.lt Nat instLTNat D p.1) ∧ Prs pool ys (pairsV b1 b2 (its.take i'))) { s₂ with heap := h₅, toks := tk₂ + 1 } := by
          refine loop2b (fun k' s' => ∃ h' tk j ys' m'' pool', s' = { s₂ with heap := h', toks := tk } ∧ j ≤ 2 ∧ k' = 3 - j ∧ IsTupIter h' (T0 + 1) T0 j ∧ IsTup h' T0 #[.bool b1, .bool b2] ∧ (h'.IsListIter I ax (i + 1) ∧ h'.IsList ax its.toArray) ∧ Fr h₀ L h' m ∧ h'.Ns C m'' ∧ m'' x = some v ∧
              News h₀ L h' ((D, LCg.lst ys') :: (pool' ++ news)) ∧ (∀ p ∈ pool' ++ news, p.1 ≠ I ∧ p.1 ≠ C ∧ p.1 ≠ D ∧ p.1 ≠ T0 + 1) ∧ (∀ p ∈ pool', @LT.lt Nat instLTNat D p.1) ∧ Prs pool' ys' (pairsV b1 b2 (its.take i) ++ [(v, .bool b1), (v, .bool b2)].take j)) ?_ 3
            ⟨h₅, _, 0, ys, _, pool, rfl, by omega, rfl, hI₅, hT₅, ⟨hst₃.1.at fun o e => up₅ _ o e, hst₃.2.at fun o e => up₅ _ o e⟩, F₃.keeps up₅, hn₃.keeps up₅, by simp, fun p hp => ⟨up₅ _ _ (N₃ p hp).1, (N₃ p hp).2⟩, fun p hp => ⟨(off' p hp).1, (off' p hp).2.1, (off' p hp).2.2, by have := newsLt₃ p hp; exact neA (by omega)⟩, gt', by simpa using P'⟩
          rintro k' s' E'' ⟨h', tk, j, ys', m'', pool', rfl, hj, rfl, hI', hT', hst₅, F₅, hn₅, hmx, N₅, off₅, gt₅, P₅⟩
          by_cases hj2 : j < 2
          · obtain ⟨b, hb, hp⟩ : ∃ b : Bool, (#[Value.bool b1, Value.bool b2] : Array Value)[j]? = some (.bool b) ∧ [(v, Value.bool b1), (v, Value.bool b2)].take (j + 1) = [(v, Value.bool b1), (v, Value.bool b2)].take j ++ [(v, .bool b)] := by
              have : j = 0 ∨ j = 1 := by omega
              rcases this with rfl | rfl
              · exact ⟨b1, rfl, rfl⟩
              · exact ⟨b2, rfl, rfl⟩
            refine next_tuple_item hI' hT' hb fun h₆ hI₆ hs₆ => ?_
            refine wpAny_assign_Name (wpAny_storeName_local kx₂ (hn₅.sameBut hs₆ (neA (by omega) : C ≠ T0 + 1)) (fun h₇ hn₇ hs₇ => ?_) kp)
            have hs₇ : Heap.SameBut C h₆ h₇ := hs₇
            have hn₇ : h₇.Ns C (fun y => if y = x₂ then some (.bool b) else m'' y) := hn₇
            have F₇ : Fr h₀ L h₇ m := (F₅.change hs₆ (neA (by omega) : T0 + 1 ≠ L) (fr3 _ (by omega))).change hs₇ hCL hC₀
            have N₇ : News h₀ L h₇ ((D, LCg.lst ys') :: (pool' ++ news)) := fun p hp => by
              refine ⟨hs₇.extBut _ _ ?_ (hs₆.extBut _ _ ?_ (N₅ p hp).1), (N₅ p hp).2⟩
              · rcases List.mem_cons.mp hp with rfl | hp
                · exact Ne.symm hCD
                · exact (off₅ p hp).2.1
              · rcases List.mem_cons.mp hp with rfl | hp
                · show D ≠ T0 + 1
                  exact neA (by omega)
                · exact (off₅ p hp).2.2.2
            refine wpAny_Tuple (wpAny_items_cons (wpAny_Name (wpAny_loadName_local kI kx hn₇ (by rw [if_neg hxx]; exact hmx) ?_) hdx))
            refine wpAny_items_cons (wpAny_Name (wpAny_loadName_local kI kx₂ hn₇ (by rw [if_pos rfl]) (wpAny_items_nil ?_)) hdx₂)
            refine ⟨by rw [sizeLine_eq]; exact Nat.le_of_ble_eq_true rfl, ?_⟩
            dsimp only
            generalize hH8 : h₇.push { cls := .type "tuple", data := .seq [v, Value.bool b].toArray } = h₈
            have up₈ : ∀ b o, h₇.get? b = some o → h₈.get? b = some o := by rw [← hH8]; exact fun b o e => Heap.get?_push_of_some _ e
            have hN₈ : h₈.get? h₇.objs.size = some (seqObj "tuple" #[v, .bool b] 0) := by rw [← hH8]; exact Heap.get?_push_size _ rfl
            have zD : h₈.get? D = some (LCg.lst ys') := up₈ _ _ (N₇ _ (List.mem_cons_self ..)).1
            have hys : ys'.length ≤ 1000 := by
              rw [P₅.length, List.length_append, pairsV_length, List.length_take, List.length_take]
              simp only [List.length_cons, List.length_nil]
              omega
            have hLlt₇ : @LT.lt Nat instLTNat L h₇.objs.size := F₇.ns.lt
            have hI7 : @LT.lt Nat instLTNat (T0 + 1) h₇.objs.size := by
              obtain ⟨o, e, _⟩ := hI₆
              exact Heap.lt_size (hs₇.extBut _ _ (neA (by omega)) e)
            refine append_at (hsz := by show ys'.toArray.size ≤ sizeLine; rw [List.size_toArray, sizeLine_eq]; omega) zD fun h₉ hs₉ hD₉ => ?_
            have fr7 : h₀.get? h₇.objs.size = none := fr3 _ (by omega)
            have hT7 : IsTup h₇ T0 #[.bool b1, .bool b2] := (hT'.extBut hs₆.extBut (neA (by omega))).extBut hs₇.extBut (neA (by omega))
            have up₉ : ∀ b o, b ≠ D → h₇.get? b = some o → h₉.get? b = some o := fun b o hb e => hs₉.extBut b o hb (up₈ b o e)
            refine ⟨3 - (j + 1), by omega, h₉, _, j + 1, ys' ++ [.ref h₇.objs.size], (fun y => if y = x₂ then some (.bool b) else m'' y), (h₇.objs.size, seqObj "tuple" #[v, .bool b] 0) :: pool', rfl, by omega, rfl, ?_, ?_, ?_, ?_, ?_, ?_, ?_, ?_, ?_, ?_⟩
            · obtain ⟨o, e, r⟩ := hI₆
              exact ⟨o, up₉ _ _ (neA (by omega)) (hs₇.extBut _ _ (neA (by omega)) e), r⟩
            · obtain ⟨o, e, r⟩ := hT7
              exact ⟨o, up₉ _ _ (neA (by omega)) e, r⟩
            · exact ⟨((hst₅.1.extBut hs₆.extBut (neA (by omega))).extBut hs₇.extBut hCI).at fun o e => up₉ _ o hDI e, ((hst₅.2.extBut hs₆.extBut (neA (by omega))).extBut hs₇.extBut (neA (by omega))).at fun o e => up₉ _ o (neA (by omega)) e⟩
            · exact (F₇.keeps up₈).change hs₉ hDL hD₀
            · exact (hn₇.keeps up₈).sameBut hs₉ hCD
            · show (if x = x₂ then _ else _) = _
              rw [if_neg hxx]; exact hmx
            · intro p hp
              rcases List.mem_cons.mp hp with rfl | hp
              · exact ⟨hD₉.trans (congrArg some (LCg.lst_snoc ys' _)), hDL, hD₀⟩
              · rcases List.mem_cons.mp hp with rfl | hp
                · exact ⟨hs₉.extBut _ _ ((neA (by omega) : h₇.objs.size ≠ D)) hN₈, (neA (by omega) : h₇.objs.size ≠ L), fr7⟩
                · exact ⟨up₉ _ _ (off₅ p hp).2.2.1 (N₇ p (List.mem_cons_of_mem _ hp)).1, (N₇ p (List.mem_cons_of_mem _ hp)).2⟩
            · intro p hp
              rcases List.mem_cons.mp hp with rfl | hp
              · exact ⟨(neA (by omega) : h₇.objs.size ≠ I), (neA (by omega) : h₇.objs.size ≠ C), (neA (by omega) : h₇.objs.size ≠ D), (neA (by omega) : h₇.objs.size ≠ T0 + 1)⟩
              · exact off₅ p hp
            · intro p hp
              rcases List.mem_cons.mp hp with rfl | hp
              · show @LT.lt Nat instLTNat D h₇.objs.size
                omega
              · exact gt₅ p hp
            · rw [hp, ← List.append_assoc]
              exact (P₅.mono fun p hp => List.mem_cons_of_mem _ hp).snoc (List.mem_cons_self ..)
          · have : j = 2 := by omega
            subst this
            refine next_tuple_end hh hI' hT' rfl fun h₆ hs₆ => ?_
            refine ⟨rfl, its.length + 1 - (i + 1), by omega, h₆, _, i + 1, ys', m'', pool', rfl, hlt, rfl, ?_, ?_, ?_, ?_, ?_, gt₅, ?_⟩
            · exact ⟨hst₅.1.extBut hs₆ (neA (by omega)), hst₅.2.extBut hs₆ (neA (by omega))⟩
            · exact LCg.fr_but F₅ (fun b o hb e => hs₆ b o (by simpa using hb) e) (neA (by omega) : L ≠ T0 + 1) (fr3 _ (by omega))
            · exact hn₅.at' fun o e => hs₆ _ o (neA (by omega)) e
            · intro p hp
              refine ⟨hs₆ _ _ ?_ (N₅ p hp).1, (N₅ p hp).2⟩
              rcases List.mem_cons.mp hp with rfl | hp
              · show D ≠ T0 + 1
                exact neA (by omega)
              · exact (off₅ p hp).2.2.2
            · exact fun p hp => ⟨(off₅ p hp).1, (off₅ p hp).2.1, (off₅ p hp).2.2.1⟩
            · rw [pairsV_succ hv]; exact P₅
        exact start2b inner fun E' => wpAny_pyIter_tupleiter hI₅ inner
      · obtain rfl : i = its.length := Nat.le_antisymm hi (Nat.not_lt.mp hlt)
        rw [List.take_length] at P'
        refine W.done _ _ _ hst' fun h₂ tk₂ hk₂ => ?_
        exact hRR _ _ h₂ tk₂ _ ys pool (LCg.fr_but F' hk₂ hIL hI₀) (LCg.news_but N' hk₂ fun p hp => by
          rcases List.mem_cons.mp hp with rfl | hp
          · exact Ne.symm hDI
          · exact (off' p hp).1) (fun p hp => (off' p hp).2.2) (hn'.at' fun o e => hk₂ _ o (by simpa using Ne.symm hCI) e) hC₀ hD₀ hCL hDL hCD (fun p hp => (off' p hp).2.1) newsLt gt' P'
    · rcases List.mem_cons.mp hp with rfl | hp
      · exact ⟨hacc, hDL, hD₀⟩
      · exact ⟨old _ _ (N p hp).1, (N p hp).2⟩
    · have hp : p ∈ news := hp
      have := newsLt p hp
      exact ⟨off p hp, neA (by omega), neA (by omega)⟩
  exact codeAny_compStart_list (loop _ rfl) (W.self 0 _ _ _ (W.frame _ _ _ hst fun b _ o e => old b o e) (loop _ rfl))
end
end Mine
end
section
open PySem PySem.W PyProof.Rows PySem.Spec PySem.Calls PyProof.V
namespace Mine
def Src2 (h₀ : Heap) (L : Addr) (m : Str → Option Value) (y : Str) (b1 b2 : Bool) (Q : Flow → Shared → Prop) (xv : Value) (s₁ : Shared) : Prop :=
  ∃ ax its news n, xv = .ref ax ∧ Fr h₀ L s₁.heap m ∧ News h₀ L s₁.heap news ∧ (ax, W.listOf (List.toArray its) n) ∈ news ∧ 2 * its.length ≤ 1000 ∧
    ∀ D h tk ys pool, Fr h₀ L h (fun z => if z = y then some (.ref D) else m z) → News h₀ L h ((D, LCg.lst ys) :: (pool ++ news)) → (∀ p ∈ pool ++ news, p.1 ≠ D) → (∀ p ∈ news, p.1 < D) → (∀ p ∈ pool, @LT.lt Nat instLTNat D p.1) → Prs pool ys (pairsV b1 b2 its) → Q .next { s₁ with heap := h, toks := tk }
theorem Src2.intro {h₀ : Heap} {L ax : Addr} {m : Str → Option Value} {y : Str} {b1 b2 : Bool} {Q : Flow → Shared → Prop} {s₁ : Shared} {its : List Value} {news : List (Addr × Obj)} {n : Nat}
    (F : Fr h₀ L s₁.heap m) (N : News h₀ L s₁.heap news) (hm : (ax, W.listOf (List.toArray its) n) ∈ news) (hz : 2 * its.length ≤ 1000)
    (h : ∀ D h tk ys pool, Fr h₀ L h (fun z => if z = y then some (.ref D) else m z) → News h₀ L h ((D, LCg.lst ys) :: (pool ++ news)) → (∀ p ∈ pool ++ news, p.1 ≠ D) → (∀ p ∈ news, p.1 < D) → (∀ p ∈ pool, @LT.lt Nat instLTNat D p.1) → Prs pool ys (pairsV b1 b2 its) → Q .next { s₁ with heap := h, toks := tk }) :
    Src2 h₀ L m y b1 b2 Q (.ref ax) s₁ := ⟨ax, its, news, n, rfl, F, N, hm, hz, h⟩
section
variable {prog : Program} {w : World} {A : Around} {E : Value → Shared → Prop} {s : Shared} {h₀ : Heap} {L : Addr} {m : Str → Option Value} {env : Env}
theorem Assign_comp2 {iter : Expr} {x x₂ y : Str} {px px₂ qx qx₂ p1 p2 p3 p4 py : Pos} {k1 k2 k3 k4} {scope : Scope} {cl : List (Str × Addr)} {pos spos : Pos} {b1 b2 : Bool} {Q : Flow → Shared → Prop} (_F₀ : Fr h₀ L s.heap m) (hLe : env.locals = L)
    (hsw : swapsWith (comp2E (.Tuple [.Name x qx, .Name x₂ qx₂] k4 p4) x x₂ px px₂ iter (.Tuple [.Constant (.bool b1) k1 p1, .Constant (.bool b2) k2 p2] k3 p3) scope pos) (some (.Name y py)) spos.line env = pure true)
    (hclos : closureFor scope env = pure cl) (hcell : ∀ z ∈ scope.names, z.2 ≠ .cell) (hkind : scope.kind = .function)
    (hnames : ∀ z ∈ scope.names, z.2 = .local → scope.names.lookup z.1 = some .local) (hx : scope.names.lookup x = some .local) (hx₂ : scope.names.lookup x₂ = some .local) (hxx : x ≠ x₂) (hdx : (x == ("__debug__" : Str)) = false) (hdx₂ : (x₂ == ("__debug__" : Str)) = false) (hh : A.handled = none)
    (hy : env.kindOf y = some .local) (hp : (env.scope.kind == .class || (env.scope.kind == .module && env.locals != env.globals)) = false)
    (h : wpAny (model prog w) A (eval iter env) (Src2 h₀ L m y b1 b2 Q) E s)
    (hs : ∀ x, foldedSetIterable iter env x = pure x := by intro _; rfl) :
    wpAny (model prog w) A (exec (.Assign [.Name y py] (comp2E (.Tuple [.Name x qx, .Name x₂ qx₂] k4 p4) x x₂ px px₂ iter (.Tuple [.Constant (.bool b1) k1 p1, .Constant (.bool b2) k2 p2] k3 p3) scope pos) spos) env) Q E s := by
  subst hLe
  rw [exec_Assign_Name_used _ _ _ _ hsw]
  refine wpAny_bind (wpAny_standAt (wpAny_bind ?_))
  show wpAny _ A (do let _ ← comprehension (comp2E (.Tuple [.Name x qx, .Name x₂ qx₂] k4 p4) x x₂ px px₂ iter (.Tuple [.Constant (.bool b1) k1 p1, .Constant (.bool b2) k2 p2] k3 p3) scope pos) scope env _ (newList []) false (eval iter env) (some (assign (.Name y py) env))) _ _ s
  refine wpAny_bind (wpAny_mono (wpAny_comprehension_free (use := some (assign (.Name y py) env)) (Q := fun _ s' => Q .next s') rfl hs hclos hkind hnames
    (wpAny_mono h (fun xv s₁ h₁ => ?_) fun _ _ e => e)) (fun _ s' hq => wpAny_pure (wpAny_pure hq)) fun _ _ e => e)
  obtain ⟨ax, its, news, n, rfl, F, N, hm, hsz, R⟩ := h₁
  have hl : s₁.heap.IsList ax its.toArray := isListN N hm
  have hlt : ax < s₁.heap.objs.size := by obtain ⟨_, e, _⟩ := hl; exact Heap.lt_size e
  refine wpAny_pyIter_list hl ?_
  have up : ∀ b o, s₁.heap.get? b = some o → (s₁.heap.push { cls := .type "list_iterator", data := .fields #[.ref ax, .int 0 0] }).get? b = some o := fun b o e => Heap.get?_push_of_some _ e
  refine block2 hsz (Nat.ne_of_lt hlt) hcell hkind hx hx₂ hxx hdx hdx₂ hh ⟨⟨_, Heap.get?_push_size _ rfl, rfl, rfl⟩, hl.push _⟩ ?_ ?_
    (F.keeps up) (N.grown up) (Nat.ne_of_lt F.ns.lt) (next_is_new F) (fun p hp => Nat.ne_of_lt (Heap.lt_size (N p hp).1)) ?_
  · show _ < (s₁.heap.push _).objs.size
    rw [Heap.size_push]; exact Nat.lt_succ_self _
  · show _ < (s₁.heap.push _).objs.size
    rw [Heap.size_push]; exact Nat.lt_succ_of_lt hlt
  · intro D C h' tk m' ys pool F' N' o1 hn hC₀ hD₀ hCL hDL hCD offC lt1 gt1 P'
    show wpAny _ A (assign (.Name y py) env (.ref D)) _ _ _
    refine wpAny_assign_Name (wpAny_storeName_local hy F'.ns (fun h₂ hn₂ hs₂ => ?_) hp)
    have hL₀ : h₀.get? env.locals = none := Heap.get?_none_of_le F'.above
    have F₂ : Fr h₀ env.locals h₂ (fun z => if z = y then some (.ref D) else m z) := ⟨hn₂, fun b o e => hs₂.extBut b o (fun q => by rw [q, hL₀] at e; cases e) (F'.keep b o e), F'.above⟩
    refine ⟨m', hn.sameBut hs₂ hCL, fun h'' hs'' => R D h'' _ ys pool (F₂.change hs'' hCL hC₀) (fun p hp => ?_) o1 lt1 gt1 P'⟩
    have z : h₂.get? p.1 = some p.2 := hs₂.extBut _ _ (N' p hp).2.1 (N' p hp).1
    refine ⟨hs''.extBut _ _ ?_ z, (N' p hp).2⟩
    rcases List.mem_cons.mp hp with rfl | hp
    · exact Ne.symm hCD
    · exact offC p hp
end
end Mine
end
section
open PySem PySem.W PyProof.Rows PySem.Spec PySem.Calls PyProof.V
open AutoSeq1 (wpAny_loadPart')
open MeetsSeq MeetsSeq2 MeetsSeq3
namespace Mine
def ltL : List Int → List Int → Bool
  | [], [] => false
  | [], _ :: _ => true
  | _ :: _, [] => false
  | a :: r, b :: t => if a = b then ltL r t else decide (a < b)
theorem ints_drop_none {vs : List Value} {xs : List Int} (h : IntsAre vs xs) {i : Nat} (hi : vs.length ≤ i) : xs.drop i = [] := by
  have := h.length
  exact List.drop_of_length_le (by omega)
theorem ints_drop_some {vs : List Value} {xs : List Int} (h : IntsAre vs xs) {i : Nat} (hi : i < vs.length) : ∃ a t, vs.toArray[((i : Nat) : Int).toNat]? = some (.int a t) ∧ xs.drop i = a :: xs.drop (i + 1) := by
  have hl := h.length
  obtain ⟨t, ht⟩ := h.get i (xs[i]'(by omega)) (by simp)
  refine ⟨xs[i]'(by omega), t, by simpa using ht, ?_⟩
  rw [List.drop_eq_getElem_cons (by omega)]
theorem lt_loop (l b : Addr) (vs ws : List Value) (xs ys : List Int) (n n2 : Nat) (hx : IntsAre vs xs) (hy : IntsAre ws ys) (k : Nat) :
    ∀ i : Nat, vs.length - i = k → i ≤ vs.length → i ≤ ws.length → Meets (Builtin.«list.__eq__.loop» ⟨[.ref l, .ref b, rawInt i, rawInt 0], []⟩)
      (fun _ R s => s.heap.get? l = some { cls := .type "list", dict := none, data := .seq vs.toArray n, slots := #[] } ∧ s.heap.get? b = some { cls := .type "list", dict := none, data := .seq ws.toArray n2, slots := #[] } ∧
        R (.ok (.ret (.bool (ltL (xs.drop i) (ys.drop i))))) s) := by
  induction k with
  | zero =>
    intro i hk h1 h2 prog w A R s h
    obtain ⟨hp, g, d, tk, os⟩ := s; obtain ⟨hl, hb, h⟩ := h
    wp_walk using wpAny_loadPart' hl, wpAny_loadPart' hb
    have hi1 : vs.toArray[((i : Nat) : Int).toNat]? = none := by simp; omega
    rw [ints_drop_none hx (by omega)] at h
    have he : ltL [] (ys.drop i) = decide (vs.toArray.size < ws.toArray.size) := by
      rcases Nat.lt_or_ge i ws.length with h3 | h3
      · obtain ⟨a, t, _, e⟩ := ints_drop_some hy h3
        rw [e]
        exact (decide_eq_true (by simp; omega)).symm
      · rw [ints_drop_none hy h3]
        exact (decide_eq_false (by simp; omega)).symm
    rw [he] at h
    rw [hi1]
    wp_walk using wpAny_loadPart' hl, wpAny_loadPart' hb
    exact h
  | succ k ih =>
    intro i hk h1 h2 prog w A R s h
    obtain ⟨hp, g, d, tk, os⟩ := s; obtain ⟨hl, hb, h⟩ := h
    wp_walk using wpAny_loadPart' hl, wpAny_loadPart' hb
    obtain ⟨a, t, hi1, ex⟩ := ints_drop_some hx (i := i) (by omega)
    rcases Nat.lt_or_ge i ws.length with h3 | h3
    · obtain ⟨c, u, hi2, ey⟩ := ints_drop_some hy h3
      have hc : ((i : Int) + 1) = ((i + 1 : Nat) : Int) := by push_cast; rfl
      rw [ex, ey] at h
      rw [hi1, hi2]
      refine wpAny_bind (wpAny_eqBool_int ?_)
      by_cases e : a = c
      · have hb' : (a == c) = true := by simp [e]
        have h : R (.ok (.ret (.bool (if a = c then ltL (xs.drop (i + 1)) (ys.drop (i + 1)) else decide (a < c))))) _ := h
        rw [if_pos e] at h
        rw [hb']
        wp_walk
        rw [hc]
        exact ⟨plainId_quiet plain_eq_loop _, codeAny_builtin entry_eq_loop (by
          rw [Around.under_plainId plain_eq_loop _]
          exact ih (i + 1) (by omega) (by omega) (by omega) prog w A R _ ⟨hl, hb, h⟩)⟩
      · have hb' : (a == c) = false := by simp [e]
        have h : R (.ok (.ret (.bool (if a = c then ltL (xs.drop (i + 1)) (ys.drop (i + 1)) else decide (a < c))))) _ := h
        rw [if_neg e] at h
        rw [hb']
        wp_walk using wpAny_loadPart' hl, wpAny_loadPart' hb
        rw [hi1, hi2]
        refine wpAny_bind (m := richCompare .Lt _ _) ?_
        show wpAny _ _ (compareOp .Lt (.int a t) (.int c u)) _ _ _
        exact PyProof.Rows.lt_int (wpAny_pure h)
    · have hi2 : ws.toArray[((i : Nat) : Int).toNat]? = none := by simp; omega
      rw [ints_drop_none hy h3, ex] at h
      have h : R (.ok (.ret (.bool false))) _ := h
      have he : decide (vs.toArray.size < ws.toArray.size) = false := decide_eq_false (by simp; omega)
      rw [← he] at h
      rw [hi1, hi2]
      wp_walk using wpAny_loadPart' hl, wpAny_loadPart' hb
      exact h
theorem list_lt (l b : Addr) (vs ws : List Value) (xs ys : List Int) (n n2 : Nat) (hx : IntsAre vs xs) (hy : IntsAre ws ys) :
    Meets (Builtin.«list.__lt__» ⟨[.ref l, .ref b], []⟩)
      (fun _ R s => s.heap.get? l = some { cls := .type "list", dict := none, data := .seq vs.toArray n, slots := #[] } ∧ s.heap.get? b = some { cls := .type "list", dict := none, data := .seq ws.toArray n2, slots := #[] } ∧
        R (.ok (.ret (.bool (ltL xs ys)))) s) := by
  intro prog w A R s h
  obtain ⟨hp, g, d, tk, os⟩ := s; obtain ⟨hl, hb, h⟩ := h
  have f3 := AutoSeq1.sub_list_list
  wp_walk using wpAny_loadPart' hl, wpAny_loadPart' hb
  exact ⟨plainId_quiet plain_eq_loop _, codeAny_builtin entry_eq_loop (by
    rw [Around.under_plainId plain_eq_loop _]
    exact lt_loop l b vs ws xs ys n n2 hx hy _ 0 rfl (Nat.zero_le _) (Nat.zero_le _) prog w A R _ ⟨hl, hb, h⟩)⟩
section
variable {prog : Program} {w : World} {A : Around} {E : Value → Shared → Prop} {s : Shared} {h₀ : Heap} {L x y : Addr} {news : List (Addr × Obj)} {Q : Bool → Shared → Prop}
theorem lt_lists {vs ws : List Value} {xs ys : List Int} {n n2 : Nat} (hu : A.units < cLine) (N : News h₀ L s.heap news) (mx : (x, W.listOf (List.toArray vs) n) ∈ news) (my : (y, W.listOf (List.toArray ws) n2) ∈ news) (hx : IntsAre vs xs) (hy : IntsAre ws ys) (h : Q (ltL xs ys) s) :
    wpAny (model prog w) A (keyLt' oneType' (.ref x) (.ref y)) Q E s := by
  rw [keyLt'_oneType, oneLt'_eq]
  simp only [if_true]
  refine wpAny_bind (wpAny_cRoomFor hu ?_)
  refine wpAny_bind (wpAny_callSpecialIfBound?_slot (T := "list") ⟨_, (N _ mx).1, rfl⟩ F.slot_list_lt ?_)
  refine call_meets F.slot_list_lt ⟨_, (N _ mx).1, rfl⟩ F.entry_list_lt (F.args_list_lt_2 _ _) (list_lt x y vs ws xs ys n n2 hx hy) ⟨(N _ mx).1, (N _ my).1, ?_⟩
  exact wpAny_truthy_bool h
end
end Mine
end
section
open PySem PySem.W PyProof.Rows
namespace Mine
def run {α : Type} (lt : Nat → Nat → Bool) : KasT α → α
  | .ret a => a
  | .ask i j k => run lt (k (lt i j))
theorem run_bind {α β : Type} (lt : Nat → Nat → Bool) (f : α → KasT β) : ∀ t : KasT α, run lt (t.bind f) = run lt (f (run lt t))
  | .ret _ => rfl
  | .ask i j k => run_bind lt f (k (lt i j))
def AskIn {α : Type} (lt : Nat → Nat → Bool) (n : Nat) : KasT α → Prop
  | .ret _ => True
  | .ask i j k => i < n ∧ j < n ∧ AskIn lt n (k (lt i j))
theorem ask_bind {α β : Type} {lt : Nat → Nat → Bool} {n : Nat} {f : α → KasT β} : ∀ {t : KasT α}, AskIn lt n t → AskIn lt n (f (run lt t)) → AskIn lt n (t.bind f)
  | .ret _, _, h => h
  | .ask i j k, h1, h2 => ⟨h1.1, h1.2.1, ask_bind (t := k (lt i j)) h1.2.2 h2⟩
theorem wp_run {α : Type} {lt : Nat → Nat → Bool} {n : Nat} {cmp : Nat → Nat → (Bool → Shared → Prop) → Shared → Prop} {Good : Shared → Prop}
    (hc : ∀ i j, i < n → j < n → ∀ (C : Bool → Shared → Prop) s, Good s → (∀ s', Good s' → C (lt i j) s') → cmp i j C s) :
    ∀ (t : KasT α), AskIn lt n t → ∀ (Q : α → Shared → Prop) s, Good s → (∀ s', Good s' → Q (run lt t) s') → t.kasWp cmp Q s
  | .ret _, _, _, _, hs, hQ => hQ _ hs
  | .ask i j k, h, Q, s, hs, hQ => hc i j h.1 h.2.1 _ s hs fun s' hs' => wp_run hc (k (lt i j)) h.2.2 Q s' hs' hQ
structure Ord (lt : Nat → Nat → Bool) : Prop where
  asym : ∀ a b, lt a b = true → lt b a = false
  trans : ∀ a b c, lt b a = false → lt c b = false → lt c a = false
theorem Ord.irr {lt : Nat → Nat → Bool} (o : Ord lt) (a : Nat) : lt a a = false := by
  cases h : lt a a with
  | false => rfl
  | true => rw [o.asym a a h] at h; cases h
def at0 (p : Array Nat) (i : Nat) : Nat := p.getD i 0
def Asc (lt : Nat → Nat → Bool) (p : Array Nat) (k : Nat) : Prop := ∀ i j, i ≤ j → j < k → lt (at0 p j) (at0 p i) = false
def Dsc (lt : Nat → Nat → Bool) (p : Array Nat) (k : Nat) : Prop := ∀ i j, i ≤ j → j < k → lt (at0 p i) (at0 p j) = false
def Eqs (lt : Nat → Nat → Bool) (p : Array Nat) (a b : Nat) : Prop := ∀ i j, a ≤ i → i < b → a ≤ j → j < b → lt (at0 p i) (at0 p j) = false
def PermN (n : Nat) (p : Array Nat) : Prop := p.Perm (List.range n).toArray
theorem PermN.size {n : Nat} {p : Array Nat} (h : PermN n p) : p.size = n := by have := h.size_eq; simpa using this
theorem PermN.lt {n : Nat} {p : Array Nat} (h : PermN n p) {i : Nat} (hi : i < n) : at0 p i < n := by
  have hs := h.size
  have hm : p[i]'(by omega) ∈ p := Array.getElem_mem _
  have h2 : p[i]'(by omega) ∈ (List.range n).toArray := h.mem_iff.mp hm
  have e : at0 p i = p[i]'(by omega) := by simp [at0, Array.getD, show i < p.size by omega]
  rw [e]; simpa using h2
theorem at0_of {p q : Array Nat} {i j : Nat} (h : p[i]? = q[j]?) : at0 p i = at0 q j := by
  simp only [at0, Array.getD_eq_getD_getElem?, h]
theorem rev_at {p : Array Nat} {i j : Nat} (hj : j ≤ p.size) (k : Nat) : at0 (kas_rev p i j) k = if i ≤ k ∧ k < j then at0 p (i + j - 1 - k) else at0 p k := by
  have e := getElem?_mirror_all (i := i) hj k
  unfold kas_rev
  by_cases h : i ≤ k ∧ k < j
  · rw [if_pos h] at e ⊢; exact at0_of e
  · rw [if_neg h] at e ⊢; exact at0_of e
theorem bub_at {p : Array Nat} {src d : Nat} (hs : src < p.size) (hd : d ≤ src) (k : Nat) : at0 (bubble p src d) k = if k = src - d then at0 p src else if src - d < k ∧ k ≤ src then at0 p (k - 1) else at0 p k := by
  have e := getElem?_bubble hs d hd k
  by_cases h : k = src - d
  · rw [if_pos h] at e ⊢; exact at0_of e
  · rw [if_neg h] at e ⊢
    by_cases h2 : src - d < k ∧ k ≤ src
    · rw [if_pos h2] at e ⊢; exact at0_of e
    · rw [if_neg h2] at e ⊢; exact at0_of e
theorem rev_perm {n : Nat} {p : Array Nat} (h : PermN n p) (i j : Nat) : PermN n (kas_rev p i j) := (mirror_perm _ _ _ _).trans h
theorem bub_perm {n : Nat} {p : Array Nat} (h : PermN n p) (i j : Nat) : PermN n (bubble p i j) := (bubble_perm _ _ _).trans h
section
variable {lt : Nat → Nat → Bool} {n : Nat}
theorem asc_run (o : Ord lt) {p : Array Nat} (hp : PermN n p) : ∀ (f m : Nat), 1 ≤ m → m + f ≤ n → Asc lt p m →
    AskIn lt n (kas_asc p f m) ∧ m ≤ run lt (kas_asc p f m) ∧ run lt (kas_asc p f m) ≤ m + f ∧ Asc lt p (run lt (kas_asc p f m)) ∧
      (run lt (kas_asc p f m) < m + f → lt (at0 p (run lt (kas_asc p f m))) (at0 p (run lt (kas_asc p f m) - 1)) = true)
  | 0, m, h1, h2, hA => ⟨trivial, Nat.le_refl _, Nat.le_refl _, hA, fun h => absurd h (Nat.lt_irrefl _)⟩
  | f + 1, m, h1, h2, hA => by
    cases hc : lt (at0 p m) (at0 p (m - 1)) with
    | true =>
      have e : run lt (kas_asc p (f + 1) m) = m := by
        show run lt (if lt (at0 p m) (at0 p (m - 1)) = true then _ else _) = m
        rw [if_pos hc]; rfl
      rw [e]
      refine ⟨⟨hp.lt (by omega), hp.lt (by omega), ?_⟩, Nat.le_refl _, Nat.le_add_right _ _, hA, fun _ => hc⟩
      show AskIn lt n (if lt (at0 p m) (at0 p (m - 1)) = true then _ else _)
      rw [if_pos hc]; trivial
    | false =>
      have hA' : Asc lt p (m + 1) := by
        intro i j hij hj
        rcases Nat.lt_or_ge j m with h | h
        · exact hA i j hij h
        · have : j = m := by omega
          subst this
          rcases Nat.lt_or_ge i j with h3 | h3
          · exact o.trans _ _ _ (hA i (j - 1) (by omega) (by omega)) hc
          · rw [show i = j by omega]; exact o.irr _
      have ih := asc_run o hp f (m + 1) (by omega) (by omega) hA'
      have e : run lt (kas_asc p (f + 1) m) = run lt (kas_asc p f (m + 1)) := by
        show run lt (if lt (at0 p m) (at0 p (m - 1)) = true then _ else _) = _
        rw [if_neg (by rw [hc]; decide)]
      rw [e]
      refine ⟨⟨hp.lt (by omega), hp.lt (by omega), ?_⟩, by omega, by omega, ih.2.2.2.1, fun h => ih.2.2.2.2 (by omega)⟩
      show AskIn lt n (if lt (at0 p m) (at0 p (m - 1)) = true then _ else _)
      rw [if_neg (by rw [hc]; decide)]; exact ih.1
theorem dsc_ext (o : Ord lt) {p : Array Nat} {m : Nat} (hm : 1 ≤ m) (hD : Dsc lt p m) (h : lt (at0 p (m - 1)) (at0 p m) = false) : Dsc lt p (m + 1) := by
  intro i j hij hj
  rcases Nat.lt_or_ge j m with h1 | h1
  · exact hD i j hij h1
  · have e : j = m := by omega
    subst e
    rcases Nat.lt_or_ge i j with h3 | h3
    · exact o.trans _ _ _ h (hD i (j - 1) (by omega) (by omega))
    · rw [show i = j by omega]; exact o.irr _
def Sim (lt : Nat → Nat → Bool) (p p' : Array Nat) : Prop := ∀ k, lt (at0 p k) (at0 p' k) = false ∧ lt (at0 p' k) (at0 p k) = false
theorem dsc_sim (o : Ord lt) {p p' : Array Nat} {m : Nat} (hD : Dsc lt p m) (hS : Sim lt p p') : Dsc lt p' m := by
  intro i j hij hj
  exact o.trans _ _ _ (hS j).1 (o.trans _ _ _ (hD i j hij hj) (hS i).2)
theorem sim_rev (o : Ord lt) {p : Array Nat} {a b : Nat} (hb : b ≤ p.size) (hE : Eqs lt p a b) : Sim lt p (kas_rev p a b) := by
  intro k
  rw [rev_at hb]
  by_cases h : a ≤ k ∧ k < b
  · rw [if_pos h]
    exact ⟨hE _ _ h.1 h.2 (by omega) (by omega), hE _ _ (by omega) (by omega) h.1 h.2⟩
  · rw [if_neg h]; exact ⟨o.irr _, o.irr _⟩
theorem desc_run (o : Ord lt) : ∀ (f : Nat) (p : Array Nat) (m q : Nat), PermN n p → q + 1 ≤ m → m + f ≤ n → Dsc lt p m → Eqs lt p (m - (q + 1)) m →
    AskIn lt n (kas_desc f p m q) ∧ PermN n (run lt (kas_desc f p m q)).1 ∧ m ≤ (run lt (kas_desc f p m q)).2.1 ∧ (run lt (kas_desc f p m q)).2.1 ≤ m + f ∧
      (run lt (kas_desc f p m q)).2.2 + 1 ≤ (run lt (kas_desc f p m q)).2.1 ∧ Dsc lt (run lt (kas_desc f p m q)).1 (run lt (kas_desc f p m q)).2.1 ∧
      Eqs lt (run lt (kas_desc f p m q)).1 ((run lt (kas_desc f p m q)).2.1 - ((run lt (kas_desc f p m q)).2.2 + 1)) (run lt (kas_desc f p m q)).2.1
  | 0, p, m, q, hp, hq, hf, hD, hE => ⟨trivial, hp, Nat.le_refl _, Nat.le_refl _, hq, hD, hE⟩
  | f + 1, p, m, q, hp, hq, hf, hD, hE => by
    have one : ∀ (p' : Array Nat), Eqs lt p' (m + 1 - (0 + 1)) (m + 1) := by
      intro p' i j h1 h2 h3 h4
      rw [show i = j by omega]; exact o.irr _
    have hpm := hp.lt (i := m) (by omega)
    have hpm1 := hp.lt (i := m - 1) (by omega)
    cases hc : lt (at0 p m) (at0 p (m - 1)) with
    | true =>
      have hD1 := dsc_ext o (by omega) hD (o.asym _ _ hc)
      by_cases h0 : q > 0
      · have hS := sim_rev o (by rw [hp.size]; omega) hE
        have ih := desc_run o f (kas_rev p (m - (q + 1)) m) (m + 1) 0 (rev_perm hp _ _) (by omega) (by omega) (dsc_sim o hD1 hS) (one _)
        have er : run lt (kas_desc (f + 1) p m q) = run lt (kas_desc f (kas_rev p (m - (q + 1)) m) (m + 1) 0) := by
          show run lt (if lt (at0 p m) (at0 p (m - 1)) = true then _ else _) = _
          rw [if_pos hc, if_pos h0]
        rw [er]
        refine ⟨⟨hpm, hpm1, ?_⟩, ih.2.1, by omega, by omega, ih.2.2.2.2⟩
        show AskIn lt n (if lt (at0 p m) (at0 p (m - 1)) = true then _ else _)
        rw [if_pos hc, if_pos h0]; exact ih.1
      · have ih := desc_run o f p (m + 1) 0 hp (by omega) (by omega) hD1 (one _)
        have er : run lt (kas_desc (f + 1) p m q) = run lt (kas_desc f p (m + 1) 0) := by
          show run lt (if lt (at0 p m) (at0 p (m - 1)) = true then _ else _) = _
          rw [if_pos hc, if_neg h0]
        rw [er]
        refine ⟨⟨hpm, hpm1, ?_⟩, ih.2.1, by omega, by omega, ih.2.2.2.2⟩
        show AskIn lt n (if lt (at0 p m) (at0 p (m - 1)) = true then _ else _)
        rw [if_pos hc, if_neg h0]; exact ih.1
    | false =>
      cases hd : lt (at0 p (m - 1)) (at0 p m) with
      | true =>
        have er : run lt (kas_desc (f + 1) p m q) = (p, m, q) := by
          show run lt (if lt (at0 p m) (at0 p (m - 1)) = true then _ else _) = _
          rw [if_neg (by rw [hc]; decide)]
          show run lt (if lt (at0 p (m - 1)) (at0 p m) = true then _ else _) = _
          rw [if_pos hd]; rfl
        rw [er]
        refine ⟨⟨hpm, hpm1, ?_⟩, hp, Nat.le_refl _, Nat.le_add_right _ _, hq, hD, hE⟩
        show AskIn lt n (if lt (at0 p m) (at0 p (m - 1)) = true then _ else _)
        rw [if_neg (by rw [hc]; decide)]
        refine ⟨hpm1, hpm, ?_⟩
        show AskIn lt n (if lt (at0 p (m - 1)) (at0 p m) = true then _ else _)
        rw [if_pos hd]; trivial
      | false =>
        have hD1 := dsc_ext o (by omega) hD hd
        have hE1 : Eqs lt p (m + 1 - (q + 1 + 1)) (m + 1) := by
          have key : ∀ i, m - (q + 1) ≤ i → i < m + 1 → lt (at0 p i) (at0 p m) = false ∧ lt (at0 p m) (at0 p i) = false := by
            intro i h1 h2
            rcases Nat.lt_or_ge i m with h3 | h3
            · exact ⟨o.trans _ _ _ hd (hE i (m - 1) (by omega) h3 (by omega) (by omega)), o.trans _ _ _ (hE (m - 1) i (by omega) (by omega) (by omega) h3) hc⟩
            · rw [show i = m by omega]; exact ⟨o.irr _, o.irr _⟩
          intro i j h1 h2 h3 h4
          exact o.trans _ _ _ (key j (by omega) h4).2 (key i (by omega) h2).1
        have ih := desc_run o f p (m + 1) (q + 1) hp (by omega) (by omega) hD1 hE1
        have er : run lt (kas_desc (f + 1) p m q) = run lt (kas_desc f p (m + 1) (q + 1)) := by
          show run lt (if lt (at0 p m) (at0 p (m - 1)) = true then _ else _) = _
          rw [if_neg (by rw [hc]; decide)]
          show run lt (if lt (at0 p (m - 1)) (at0 p m) = true then _ else _) = _
          rw [if_neg (by rw [hd]; decide)]
        rw [er]
        refine ⟨⟨hpm, hpm1, ?_⟩, ih.2.1, by omega, by omega, ih.2.2.2.2⟩
        show AskIn lt n (if lt (at0 p m) (at0 p (m - 1)) = true then _ else _)
        rw [if_neg (by rw [hc]; decide)]
        refine ⟨hpm1, hpm, ?_⟩
        show AskIn lt n (if lt (at0 p (m - 1)) (at0 p m) = true then _ else _)
        rw [if_neg (by rw [hd]; decide)]; exact ih.1
theorem asc_rev {p : Array Nat} {m : Nat} (hm : m ≤ p.size) (hD : Dsc lt p m) : Asc lt (kas_rev p 0 m) m := by
  intro i j hij hj
  rw [rev_at hm, rev_at hm, if_pos ⟨Nat.zero_le _, hj⟩, if_pos ⟨Nat.zero_le _, by omega⟩]
  exact hD _ _ (by omega) (by omega)
def Pst (lt : Nat → Nat → Bool) (n : Nat) (r : Nat × Array Nat) : Prop := PermN n r.2 ∧ 1 ≤ r.1 ∧ r.1 ≤ n ∧ Asc lt r.2 r.1
theorem tail_run (o : Ord lt) {p : Array Nat} {m : Nat} (hp : PermN n p) (h1 : 1 ≤ m) (h2 : m ≤ n) (hD : Dsc lt p m) : AskIn lt n (kas_tail3 m n p) ∧ Pst lt n (run lt (kas_tail3 m n p)) := by
  have hp' := rev_perm hp 0 m
  have hA := asc_rev (lt := lt) (by rw [hp.size]; exact h2) hD
  obtain ⟨a1, a2, a3, a4, _⟩ := asc_run o hp' (n - m) m h1 (by omega) hA
  unfold kas_tail3
  refine ⟨ask_bind a1 trivial, ?_⟩
  rw [run_bind]
  exact ⟨hp', by show 1 ≤ run lt (kas_asc (kas_rev p 0 m) (n - m) m); omega, by show run lt (kas_asc (kas_rev p 0 m) (n - m) m) ≤ n; omega, a4⟩
theorem descPart_run (o : Ord lt) {p : Array Nat} {m : Nat} (hp : PermN n p) (h1 : 1 ≤ m) (h2 : m + 1 ≤ n) (hD : Dsc lt p (m + 1)) : AskIn lt n (kas_descPart m n p) ∧ Pst lt n (run lt (kas_descPart m n p)) := by
  have one : Eqs lt p (m + 1 - (0 + 1)) (m + 1) := by
    intro i j h1 h2 h3 h4
    rw [show i = j by omega]; exact o.irr _
  obtain ⟨a1, a2, a3, a4, a5, a6, a7⟩ := desc_run o (n - (m + 1)) p (m + 1) 0 hp (by omega) (by omega) hD one
  have key : ∀ r : Array Nat × Nat × Nat, PermN n r.1 → m + 1 ≤ r.2.1 → r.2.1 ≤ m + 1 + (n - (m + 1)) → r.2.2 + 1 ≤ r.2.1 → Dsc lt r.1 r.2.1 → Eqs lt r.1 (r.2.1 - (r.2.2 + 1)) r.2.1 →
      AskIn lt n (if r.2.2 > 0 then kas_tail3 r.2.1 n (kas_rev r.1 (r.2.1 - (r.2.2 + 1)) r.2.1) else kas_tail3 r.2.1 n r.1) ∧ Pst lt n (run lt (if r.2.2 > 0 then kas_tail3 r.2.1 n (kas_rev r.1 (r.2.1 - (r.2.2 + 1)) r.2.1) else kas_tail3 r.2.1 n r.1)) := by
    intro r b2 b3 b4 b5 b6 b7
    by_cases h0 : r.2.2 > 0
    · rw [if_pos h0]
      have hS := sim_rev o (by rw [b2.size]; omega) b7
      exact tail_run o (rev_perm b2 (r.2.1 - (r.2.2 + 1)) r.2.1) (by omega) (by omega) (dsc_sim o b6 hS)
    · rw [if_neg h0]
      exact tail_run o b2 (by omega) (by omega) b6
  have k := key _ a2 a3 a4 a5 a6 a7
  unfold kas_descPart
  exact ⟨ask_bind a1 k.1, by rw [run_bind]; exact k.2⟩
theorem place_run (o : Ord lt) {p : Array Nat} {k : Nat} (hp : PermN n p) (hk : k < n) (hA : Asc lt p k) : ∀ (f l r : Nat), l ≤ r → r ≤ k → r - l ≤ f →
    (∀ i, i < l → lt (at0 p k) (at0 p i) = false) → (∀ i, r ≤ i → i < k → lt (at0 p k) (at0 p i) = true) →
    AskIn lt n (kas_place p k f l r) ∧ run lt (kas_place p k f l r) ≤ k ∧ (∀ i, i < run lt (kas_place p k f l r) → lt (at0 p k) (at0 p i) = false) ∧ (∀ i, run lt (kas_place p k f l r) ≤ i → i < k → lt (at0 p k) (at0 p i) = true)
  | 0, l, r, h1, h2, h3, h4, h5 => ⟨trivial, by show l ≤ k; omega, h4, fun i hi => h5 i (by have : l ≤ i := hi; omega)⟩
  | f + 1, l, r, h1, h2, h3, h4, h5 => by
    by_cases hlr : l ≥ r
    · have e : kas_place p k (f + 1) l r = .ret l := by
        show (if l ≥ r then _ else _) = _
        rw [if_pos hlr]
      rw [e]
      exact ⟨trivial, by show l ≤ k; omega, h4, fun i hi => h5 i (by have : l ≤ i := hi; omega)⟩
    · have e : kas_place p k (f + 1) l r = .ask (p.getD k 0) (p.getD ((l + r) / 2) 0) fun c => if c = true then kas_place p k f l ((l + r) / 2) else kas_place p k f ((l + r) / 2 + 1) r := by
        show (if l ≥ r then _ else _) = _
        rw [if_neg hlr]
      rw [e]
      have hm := hp.lt (i := (l + r) / 2) (by omega)
      cases hc : lt (at0 p k) (at0 p ((l + r) / 2)) with
      | true =>
        have ih := place_run o hp hk hA f l ((l + r) / 2) (by omega) (by omega) (by omega) h4 (fun i hi1 hi2 => by
          cases hb : lt (at0 p k) (at0 p i) with
          | true => rfl
          | false =>
            have := o.trans _ _ _ (hA ((l + r) / 2) i hi1 hi2) hb
            rw [hc] at this; cases this)
        refine ⟨⟨hp.lt hk, hm, ?_⟩, ?_⟩
        · show AskIn lt n (if lt (at0 p k) (at0 p ((l + r) / 2)) = true then _ else _)
          rw [if_pos hc]; exact ih.1
        · show _ ≤ _ ∧ _
          have er : run lt (.ask (p.getD k 0) (p.getD ((l + r) / 2) 0) fun c => if c = true then kas_place p k f l ((l + r) / 2) else kas_place p k f ((l + r) / 2 + 1) r) = run lt (kas_place p k f l ((l + r) / 2)) := by
            show run lt (if lt (at0 p k) (at0 p ((l + r) / 2)) = true then _ else _) = _
            rw [if_pos hc]
          rw [er]; exact ih.2
      | false =>
        have ih := place_run o hp hk hA f ((l + r) / 2 + 1) r (by omega) h2 (by omega) (fun i hi => o.trans _ _ _ (hA i ((l + r) / 2) (by omega) (by omega)) hc) h5
        refine ⟨⟨hp.lt hk, hm, ?_⟩, ?_⟩
        · show AskIn lt n (if lt (at0 p k) (at0 p ((l + r) / 2)) = true then _ else _)
          rw [if_neg (by rw [hc]; decide)]; exact ih.1
        · have er : run lt (.ask (p.getD k 0) (p.getD ((l + r) / 2) 0) fun c => if c = true then kas_place p k f l ((l + r) / 2) else kas_place p k f ((l + r) / 2 + 1) r) = run lt (kas_place p k f ((l + r) / 2 + 1) r) := by
            show run lt (if lt (at0 p k) (at0 p ((l + r) / 2)) = true then _ else _) = _
            rw [if_neg (by rw [hc]; decide)]
          rw [er]; exact ih.2
theorem count_run (o : Ord lt) {p : Array Nat} (hp : PermN n p) (hn : 1 ≤ n) : AskIn lt n (kas_count n p) ∧ Pst lt n (run lt (kas_count n p)) := by
  have hA1 : Asc lt p 1 := by
    intro i j h1 h2
    rw [show i = j by omega]; exact o.irr _
  obtain ⟨a1, a2, a3, a4, a5⟩ := asc_run o hp (n - 1) 1 (Nat.le_refl _) (by omega) hA1
  have key : ∀ m, 1 ≤ m → m ≤ 1 + (n - 1) → Asc lt p m → (m < 1 + (n - 1) → lt (at0 p m) (at0 p (m - 1)) = true) →
      AskIn lt n (if (m == n) = true then KasT.ret (m, p) else if m > 1 then .ask (p.getD 0 0) (p.getD (m - 1) 0) fun c => if c = true then .ret (m, p) else kas_descPart m n (kas_rev p 0 m) else kas_descPart m n p) ∧
      Pst lt n (run lt (if (m == n) = true then KasT.ret (m, p) else if m > 1 then .ask (p.getD 0 0) (p.getD (m - 1) 0) fun c => if c = true then .ret (m, p) else kas_descPart m n (kas_rev p 0 m) else kas_descPart m n p)) := by
    intro m b1 b2 b3 b4
    by_cases h1 : m = n
    · rw [if_pos (by simp [h1])]
      exact ⟨trivial, hp, b1, by show m ≤ n; omega, b3⟩
    · rw [if_neg (by simpa using h1)]
      have hst := b4 (by omega)
      by_cases h2 : m > 1
      · rw [if_pos h2]
        cases hc : lt (at0 p 0) (at0 p (m - 1)) with
        | true =>
          refine ⟨⟨hp.lt (by omega), hp.lt (by omega), ?_⟩, ?_⟩
          · show AskIn lt n (if lt (at0 p 0) (at0 p (m - 1)) = true then _ else _)
            rw [if_pos hc]; trivial
          · show Pst lt n (run lt (if lt (at0 p 0) (at0 p (m - 1)) = true then _ else _))
            rw [if_pos hc]; exact ⟨hp, b1, by show m ≤ n; omega, b3⟩
        | false =>
          have hE : Eqs lt p 0 m := by
            intro i j _ h4 _ h6
            exact o.trans _ _ _ (b3 j (m - 1) (by omega) (by omega)) (o.trans _ _ _ hc (b3 0 i (Nat.zero_le _) h4))
          have hD : Dsc lt p (m + 1) := dsc_ext o b1 (fun i j h3 h4 => hE i j (Nat.zero_le _) (by omega) (Nat.zero_le _) h4) (o.asym _ _ hst)
          have hS := sim_rev o (by rw [hp.size]; omega) hE
          have := descPart_run o (rev_perm hp 0 m) b1 (by omega) (dsc_sim o hD hS)
          refine ⟨⟨hp.lt (by omega), hp.lt (by omega), ?_⟩, ?_⟩
          · show AskIn lt n (if lt (at0 p 0) (at0 p (m - 1)) = true then _ else _)
            rw [if_neg (by rw [hc]; decide)]; exact this.1
          · show Pst lt n (run lt (if lt (at0 p 0) (at0 p (m - 1)) = true then _ else _))
            rw [if_neg (by rw [hc]; decide)]; exact this.2
      · rw [if_neg h2]
        have hD : Dsc lt p (m + 1) := dsc_ext o b1 (fun i j h3 h4 => by rw [show i = j by omega]; exact o.irr _) (o.asym _ _ hst)
        exact descPart_run o hp b1 (by omega) hD
  have k := key _ a2 a3 a4 a5
  unfold kas_count
  exact ⟨ask_bind a1 k.1, by rw [run_bind]; exact k.2⟩
theorem bin_run (o : Ord lt) : ∀ (f : Nat) (p : Array Nat) (k : Nat), PermN n p → k + f ≤ n → Asc lt p k → AskIn lt n (kas_bin f p k) ∧ PermN n (run lt (kas_bin f p k)) ∧ Asc lt (run lt (kas_bin f p k)) (k + f)
  | 0, p, k, hp, _, hA => ⟨trivial, hp, hA⟩
  | f + 1, p, k, hp, hk, hA => by
    obtain ⟨a1, a2, a3, a4⟩ := place_run o hp (by omega : k < n) hA k 0 k (Nat.zero_le _) (Nat.le_refl _) (by omega) (fun i hi => absurd hi (Nat.not_lt_zero _)) (fun i h1 h2 => absurd h1 (by omega))
    have key : ∀ l, l ≤ k → (∀ i, i < l → lt (at0 p k) (at0 p i) = false) → (∀ i, l ≤ i → i < k → lt (at0 p k) (at0 p i) = true) → Asc lt (bubble p k (k - l)) (k + 1) := by
      intro l hl b3 b4 i j hij hj
      have hs : k < p.size := by rw [hp.size]; omega
      rw [bub_at hs (by omega), bub_at hs (by omega)]
      have e : k - (k - l) = l := by omega
      rw [e]
      by_cases hjl : j = l
      · rw [if_pos hjl]
        by_cases hil : i = l
        · rw [if_pos hil]; exact o.irr _
        · rw [if_neg hil, if_neg (by omega)]; exact b3 i (by omega)
      · rw [if_neg hjl]
        by_cases hj2 : l < j ∧ j ≤ k
        · rw [if_pos hj2]
          by_cases hil : i = l
          · rw [if_pos hil]; exact o.asym _ _ (b4 (j - 1) (by omega) (by omega))
          · rw [if_neg hil]
            by_cases hi2 : l < i ∧ i ≤ k
            · rw [if_pos hi2]; exact hA (i - 1) (j - 1) (by omega) (by omega)
            · rw [if_neg hi2]; exact hA i (j - 1) (by omega) (by omega)
        · rw [if_neg hj2, if_neg (by omega), if_neg (by omega)]
          exact hA i j hij (by omega)
    have kk := key _ a2 a3 a4
    have ih := bin_run o f (bubble p k (k - run lt (kas_place p k k 0 k))) (k + 1) (bub_perm hp _ _) (by omega) kk
    have er : run lt (kas_bin (f + 1) p k) = run lt (kas_bin f (bubble p k (k - run lt (kas_place p k k 0 k))) (k + 1)) := run_bind lt _ _
    rw [er]
    exact ⟨ask_bind a1 ih.1, ih.2.1, by have := ih.2.2; rw [show k + 1 + f = k + (f + 1) by omega] at this; exact this⟩
theorem sort_run (o : Ord lt) (hn : 1 ≤ n) : AskIn lt n (kas_sort n) ∧ PermN n (run lt (kas_sort n)) ∧ Asc lt (run lt (kas_sort n)) n := by
  have hp : PermN n (List.toArray (List.range n)) := Array.Perm.refl _
  obtain ⟨c1, c2⟩ := count_run o hp hn
  have key : ∀ r : Nat × Array Nat, Pst lt n r → AskIn lt n (if r.1 < n then kas_bin (n - max r.1 1) r.2 (max r.1 1) else .ret r.2) ∧ PermN n (run lt (if r.1 < n then kas_bin (n - max r.1 1) r.2 (max r.1 1) else .ret r.2)) ∧
      Asc lt (run lt (if r.1 < n then kas_bin (n - max r.1 1) r.2 (max r.1 1) else .ret r.2)) n := by
    rintro r ⟨b1, b2, b3, b4⟩
    rw [show max r.1 1 = r.1 by omega]
    by_cases h : r.1 < n
    · rw [if_pos h]
      have := bin_run o (n - r.1) r.2 r.1 b1 (by omega) b4
      rw [show r.1 + (n - r.1) = n by omega] at this
      exact this
    · rw [if_neg h]
      have : r.1 = n := by omega
      exact ⟨trivial, b1, this ▸ b4⟩
  have k := key _ c2
  unfold kas_sort
  exact ⟨ask_bind c1 k.1, by rw [run_bind]; exact k.2.1, by rw [run_bind]; exact k.2.2⟩
end
end Mine
end
section
open PySem PySem.W PyProof.Rows PySem.Spec PySem.Calls PyProof.V
namespace Mine
inductive Lsts (pool : List (Addr × Obj)) : List Value → List (List Int) → Prop
  | nil : Lsts pool [] []
  | cons {T : Addr} {vs : List Value} {n : Nat} {z : List Int} {ys : List Value} {zs : List (List Int)} (hm : (T, W.listOf (List.toArray vs) n) ∈ pool) (hi : IntsAre vs z) (r : Lsts pool ys zs) : Lsts pool (.ref T :: ys) (z :: zs)
theorem Lsts.mono {pool pool' : List (Addr × Obj)} (h : ∀ p ∈ pool, p ∈ pool') : ∀ {ys zs}, Lsts pool ys zs → Lsts pool' ys zs
  | _, _, .nil => .nil
  | _, _, .cons hm hi r => .cons (h _ hm) hi (r.mono h)
theorem Lsts.snoc {pool : List (Addr × Obj)} {T : Addr} {vs : List Value} {n : Nat} {z : List Int} (hm : (T, W.listOf (List.toArray vs) n) ∈ pool) (hi : IntsAre vs z) : ∀ {ys zs}, Lsts pool ys zs → Lsts pool (ys ++ [.ref T]) (zs ++ [z])
  | _, _, .nil => .cons hm hi .nil
  | _, _, .cons h i r => .cons h i (r.snoc hm hi)
theorem Lsts.length {pool : List (Addr × Obj)} : ∀ {ys zs}, Lsts pool ys zs → ys.length = zs.length
  | _, _, .nil => rfl
  | _, _, .cons _ _ r => by simp [r.length]
theorem Lsts.get {pool : List (Addr × Obj)} : ∀ {ys zs} {i : Nat} {y : Value}, Lsts pool ys zs → ys[i]? = some y → ∃ T vs n z, y = .ref T ∧ (T, W.listOf (List.toArray vs) n) ∈ pool ∧ IntsAre vs z ∧ zs[i]? = some z
  | _, _, _, _, .nil, h => by simp at h
  | _, _, 0, _, .cons hm hi r, h => by
    simp at h
    subst h
    exact ⟨_, _, _, _, rfl, hm, hi, rfl⟩
  | _, _, i + 1, _, .cons hm hi r, h => by
    obtain ⟨T, vs, n, z, e, a, b, c⟩ := r.get (i := i) (by simpa using h)
    exact ⟨T, vs, n, z, e, a, b, by simpa using c⟩
theorem ltL_asym : ∀ a b : List Int, ltL a b = true → ltL b a = false
  | [], [], h => by cases h
  | [], _ :: _, _ => rfl
  | _ :: _, [], h => by cases h
  | a :: r, b :: t, h => by
    have h : (if a = b then ltL r t else decide (a < b)) = true := h
    show (if b = a then ltL t r else decide (b < a)) = false
    by_cases e : a = b
    · rw [if_pos e] at h
      rw [if_pos e.symm]
      exact ltL_asym r t h
    · rw [if_neg e] at h
      rw [if_neg fun q => e q.symm]
      have := of_decide_eq_true h
      exact decide_eq_false (by omega)
theorem ltL_trans : ∀ a b c : List Int, ltL b a = false → ltL c b = false → ltL c a = false
  | [], [], [], _, _ => rfl
  | [], [], _ :: _, _, _ => rfl
  | [], _ :: _, [], _, h => by cases h
  | [], _ :: _, _ :: _, _, _ => rfl
  | _ :: _, [], _, h, _ => by cases h
  | _ :: _, _ :: _, [], _, h => by cases h
  | a :: r, b :: t, c :: q, h1, h2 => by
    have g1 : (if b = a then ltL t r else decide (b < a)) = false := h1
    have g2 : (if c = b then ltL q t else decide (c < b)) = false := h2
    show (if c = a then ltL q r else decide (c < a)) = false
    by_cases e1 : b = a
    · rw [if_pos e1] at g1
      by_cases e2 : c = b
      · rw [if_pos e2] at g2
        rw [if_pos (e2.trans e1)]
        exact ltL_trans r t q g1 g2
      · rw [if_neg e2] at g2
        rw [← e1, if_neg e2]
        exact g2
    · rw [if_neg e1] at g1
      have := of_decide_eq_false g1
      by_cases e2 : c = b
      · rw [e2, if_neg e1]
        exact g1
      · rw [if_neg e2] at g2
        have := of_decide_eq_false g2
        rw [if_neg (by omega)]
        exact decide_eq_false (by omega)
def ltZ (zs : List (List Int)) (i j : Nat) : Bool := ltL (zs.getD i []) (zs.getD j [])
theorem ltZ_ord (zs : List (List Int)) : Ord (ltZ zs) := ⟨fun _ _ => ltL_asym _ _, fun _ _ _ => ltL_trans _ _ _⟩
section
variable {prog : Program} {w : World} {A : Around} {E : Value → Shared → Prop} {s : Shared} {h₀ : Heap} {L : Addr} {m : Str → Option Value}
def CallK (prog : Program) (w : World) (A : Around) (h₀ : Heap) (L : Addr) (m : Str → Option Value) (f : Value) (X : List (Addr × Obj)) (s : Shared) (v : Value) (z : List Int) : Prop :=
  ∀ Z h tk (C : Value → Shared → Prop), Fr h₀ L h m → News h₀ L h Z → (∀ p ∈ X, p ∈ Z) → (∀ ky kvs n h' tk', IntsAre kvs z → (∀ p ∈ Z, p.1 ≠ ky) → Fr h₀ L h' m → News h₀ L h' ((ky, W.listOf (List.toArray kvs) n) :: Z) → C (.ref ky) { s with heap := h', toks := tk' }) →
    wpAny (model prog w) A (call f [v]) C (fun _ _ => False) { s with heap := h, toks := tk }
theorem keys_run {f : Value} {kS : Addr} {X X' : List (Addr × Obj)} {vs : List Value} {zs : List (List Int)} {Fin : List Value → Nat → Shared → Prop} (hz : zs.length = vs.length) (hX : ∀ p ∈ X, p ∈ X')
    (hcall : ∀ (i : Nat) v z, vs[i]? = some v → zs[i]? = some z → CallK prog w A h₀ L m f X s v z)
    (hfin : ∀ ks pool e h tk, Lsts pool ks zs → Fr h₀ L h m → News h₀ L h ((kS, seqObj "list" (List.toArray ks) e) :: (pool ++ X')) → (∀ p ∈ pool ++ X', p.1 ≠ kS) → Fin ks e { s with heap := h, toks := tk }) :
    ∀ (j i : Nat) (ks : List Value) (pool : List (Addr × Obj)) e h tk, i + j = vs.length → Lsts pool ks (zs.take i) → Fr h₀ L h m → News h₀ L h ((kS, seqObj "list" (List.toArray ks) e) :: (pool ++ X')) → (∀ p ∈ pool ++ X', p.1 ≠ kS) →
      KatKeys prog w A h₀ L m kS f Fin (vs.drop i) ks e { s with heap := h, toks := tk }
  | 0, i, ks, pool, e, h, tk, hij, P, F, N, off => by
    rw [List.drop_of_length_le (by omega)]
    rw [List.take_of_length_le (by omega)] at P
    exact KatKeys.nil (hfin ks pool e h tk P F N off)
  | j + 1, i, ks, pool, e, h, tk, hij, P, F, N, off => by
    have hi : i < vs.length := by omega
    rw [List.drop_eq_getElem_cons hi]
    have hv : vs[i]? = some vs[i] := by simp
    have hzz : zs[i]? = some (zs[i]'(by omega)) := by simp
    refine KatKeys.cons (hcall i _ _ hv hzz _ h tk _ F N (fun p hp => List.mem_cons_of_mem _ (List.mem_append_right _ (hX p hp))) ?_)
    intro ky kvs n h' tk' hi' off' F' N'
    have hky : kS ≠ ky := off' _ (List.mem_cons_self ..)
    refine KatBack.intro (news := (kS, seqObj "list" (List.toArray ks) e) :: (ky, W.listOf (List.toArray kvs) n) :: (pool ++ X')) F' (fun p hp => N' p ?_) (UpdF.head fun p hp => ?_) fun h2 c F2 N2 => ?_
    · rcases List.mem_cons.mp hp with rfl | hp
      · exact List.Mem.tail _ (List.Mem.head _)
      · rcases List.mem_cons.mp hp with rfl | hp
        · exact List.Mem.head _
        · exact List.Mem.tail _ (List.Mem.tail _ hp)
    · rcases List.mem_cons.mp hp with rfl | hp
      · exact Ne.symm hky
      · exact off p hp
    · refine keys_run hz hX hcall hfin j (i + 1) (ks ++ [.ref ky]) ((ky, W.listOf (List.toArray kvs) n) :: pool) c h2 tk' (by omega) ?_ F2 N2 ?_
      · rw [List.take_add_one, hzz]
        exact (P.mono fun p hp => List.mem_cons_of_mem _ hp).snoc (List.mem_cons_self ..) hi'
      · intro p hp
        rcases List.mem_cons.mp hp with rfl | hp
        · exact Ne.symm hky
        · exact off p hp
theorem sortK {l q : Addr} {X : List (Addr × Obj)} {vs : List Value} {zs : List (List Int)} {Q : Value → Shared → Prop} (hu : A.in1.in1.units < cLine) (F : Fr h₀ L s.heap m) (N : News h₀ L s.heap X) (hl : s.heap.IsList l (List.toArray vs)) (h2 : 2 ≤ vs.length) (h64 : vs.length < 64) (hz : zs.length = vs.length)
    (hcall : ∀ (i : Nat) v z, vs[i]? = some v → zs[i]? = some z → CallK prog w A.in1.in1 h₀ L m (.ref q) X s v z)
    (hQ : ∀ D e (p : Array Nat) h' tk', PermN vs.length p → Asc (ltZ zs) p vs.length → Fr h₀ L h' m → News h₀ L h' ((D, W.listOf (List.toArray (p.toList.map fun i => vs.getD i Value.none)) e) :: X) → (∀ q ∈ X, q.1 < D) → Q (.ref D) { s with heap := h', toks := tk' }) :
    wpAny (model prog w) A (call (.builtin "sorted") [.ref l] [(Str.ofString "key", .ref q)]) Q E s := by
  refine kat_sortedK (b := false) F N hl h2 h64 (ksk_s1 _ _) (fun x => ksk_l1 _ _) (fun x => ksk_t1 _ _) fun D kS e1 h' F' N' l0 l1 => ?_
  have key := keys_run (kS := kS) (X := X) (X' := (D, seqObj "list" #[] e1) :: X) (s := s) (Fin := fun ks e s' => wpAny (model prog w) A.in1.in1 (keyKind' (List.toArray ks)) (fun κ s'' => (kas_sort vs.length).kasWp (kas_ask prog w A.in1.in1 κ (katRev false ks)) (fun p s3 => KatFin h₀ L m kS D ks e e1 (katRev false (p.toList.map fun i => (katRev false vs).getD i Value.none)) (fun s4 => Q (.ref D) s4) s3) s'') (fun _ _ => False) s')
    hz (fun p hp => List.mem_cons_of_mem _ hp) hcall ?_ vs.length 0 [] [] 0 h' s.toks (by omega) .nil F' N' ?_
  · exact key
  · intro ks pool e h tk P F3 N3 off3
    have hkl : ks.length = vs.length := by rw [P.length, hz]
    refine kas_kind (T := .type "list") (by omega) (fun v hv => ?_) (by decide) (by decide) ?_
    · obtain ⟨i, hi⟩ := List.getElem?_of_mem hv
      obtain ⟨T, tvs, n, z, rfl, hm, _, _⟩ := P.get hi
      have ho := (N3 _ (List.mem_cons_of_mem _ (List.mem_append_left _ hm))).1
      exact (Looks.ld ho).andThen .now
    · obtain ⟨r1, r2, r3⟩ := sort_run (ltZ_ord zs) (show 1 ≤ vs.length by omega)
      refine wp_run (lt := ltZ zs) (n := vs.length) (Good := fun s' => s' = { s with heap := h, toks := tk }) ?_ _ r1 _ _ rfl ?_
      · rintro i j hi hj C s' rfl hC
        have e1 : ks[i]? = some (ks[i]'(by omega)) := by simp
        have e2 : ks[j]? = some (ks[j]'(by omega)) := by simp
        obtain ⟨T1, v1, n1, z1, q1, m1, i1, g1⟩ := P.get e1
        obtain ⟨T2, v2, n2, z2, q2, m2, i2, g2⟩ := P.get e2
        unfold kas_ask
        have d1 : (katRev false ks).getD i Value.none = .ref T1 := by
          show ks.getD i Value.none = _
          rw [List.getD_eq_getElem?_getD, e1, q1]; rfl
        have d2 : (katRev false ks).getD j Value.none = .ref T2 := by
          show ks.getD j Value.none = _
          rw [List.getD_eq_getElem?_getD, e2, q2]; rfl
        rw [d1, d2]
        refine lt_lists hu N3 (List.mem_cons_of_mem _ (List.mem_append_left _ m1)) (List.mem_cons_of_mem _ (List.mem_append_left _ m2)) i1 i2 ?_
        have := hC _ rfl
        unfold ltZ at this
        rw [List.getD_eq_getElem?_getD, List.getD_eq_getElem?_getD, g1, g2] at this
        exact this
      · rintro s' rfl
        refine KatFin.intro (news := (kS, seqObj "list" (List.toArray ks) e) :: (pool ++ (D, seqObj "list" #[] e1) :: X)) F3 N3 (UpdF.head off3) fun h4 c F4 N4 => ?_
        refine KasFin.intro (news := (D, seqObj "list" #[] e1) :: X) F4 (fun p hp => N4 p (List.mem_cons_of_mem _ (List.mem_append_right _ hp))) (UpdF.head fun p hp => Nat.ne_of_lt (l1 p hp)) fun h5 c5 F5 N5 => ?_
        exact hQ D c5 _ h5 tk r2 r3 F5 N5 l1
  · intro p hp
    rcases List.mem_cons.mp hp with rfl | hp
    · exact Nat.ne_of_lt l0
    · exact Nat.ne_of_lt (Nat.lt_trans (l1 p hp) l0)
end
end Mine
end
section
open PySem PySem.W PyProof.Rows PySem.Spec PySem.Calls PyProof.V
namespace Mine
def PrsT (pool : List (Addr × Obj)) (ys : List Value) (ps : List (Str × Bool)) : Prop :=
  ys.length = ps.length ∧ ∀ (i : Nat) v p, ys[i]? = some v → ps[i]? = some p → ∃ T t n, v = .ref T ∧ (T, seqObj "tuple" #[.str p.1 t, .bool p.2] n) ∈ pool
def prsOf (tx : List Str) : List (Str × Bool) := tx.flatMap fun x => [(x, false), (x, true)]
theorem prsT_of {pool : List (Addr × Obj)} : ∀ {ts : List Value} {tx : List Str} {ys : List Value}, StrsAre ts tx → Prs pool ys (pairsV false true ts) → PrsT pool ys (prsOf tx)
  | _, _, [], .nil, .nil => ⟨rfl, fun i v p h => by simp at h⟩
  | _, _, _, .cons x t r, .cons h1 (.cons h2 R) => by
    obtain ⟨e, k⟩ := prsT_of r R
    refine ⟨by simp only [List.length_cons, prsOf, List.flatMap_cons, List.length_append, List.length_nil] at e ⊢; omega, fun i v p hv hp => ?_⟩
    match i with
    | 0 => simp [prsOf] at hv hp; subst hv hp; exact ⟨_, _, _, rfl, h1⟩
    | 1 => simp [prsOf] at hv hp; subst hv hp; exact ⟨_, _, _, rfl, h2⟩
    | i + 2 =>
      refine k i v p (by simpa using hv) ?_
      simpa [prsOf] using hp
theorem prsOf_len (tx : List Str) : (prsOf tx).length = 2 * tx.length := by
  induction tx with
  | nil => rfl
  | cons a r ih => simp only [prsOf, List.flatMap_cons, List.length_append, List.length_cons, List.length_nil] at ih ⊢; omega
theorem prsOf_mem {tx : List Str} {p : Str × Bool} (h : p ∈ prsOf tx) : p.1 ∈ tx := by
  obtain ⟨x, hx, hp⟩ := List.mem_flatMap.mp h
  simp at hp
  rcases hp with rfl | rfl <;> exact hx
def plc (p : Str × Bool) : List Int := p.1.cps.toList.map (rankZ p.2)
def Srt (ps : List (Str × Bool)) : Prop := ∀ (i j : Nat) p q, i ≤ j → ps[i]? = some p → ps[j]? = some q → ltL (plc q) (plc p) = false
theorem at0_get {pm : Array Nat} {i k : Nat} (h : pm.toList[i]? = some k) : at0 pm i = k := by
  have : pm[i]? = some k := by simpa using h
  simp [at0, Array.getD_eq_getD_getElem?, this]
theorem perm_lt {n : Nat} {pm : Array Nat} (h : PermN n pm) {i k : Nat} (e : pm.toList[i]? = some k) : i < n ∧ k < n := by
  have hs := h.size
  have hi : i < pm.toList.length := by
    rcases Nat.lt_or_ge i pm.toList.length with h1 | h1
    · exact h1
    · rw [List.getElem?_eq_none h1] at e; cases e
  have hi' : i < n := by rw [Array.length_toList] at hi; omega
  exact ⟨hi', at0_get e ▸ h.lt hi'⟩
theorem map_get {α : Type} {pm : Array Nat} {f : Nat → α} {i : Nat} {v : α} (h : (pm.toList.map f)[i]? = some v) : ∃ k, pm.toList[i]? = some k ∧ v = f k := by
  rw [List.getElem?_map] at h
  cases e : pm.toList[i]? with
  | none => rw [e] at h; cases h
  | some k => rw [e] at h; exact ⟨k, rfl, (Option.some.inj h).symm⟩
theorem prsT_perm {pool : List (Addr × Obj)} {ys : List Value} {ps : List (Str × Bool)} {pm : Array Nat} (h : PrsT pool ys ps) (hp : PermN ys.length pm) : PrsT pool (pm.toList.map fun i => ys.getD i Value.none) (pm.toList.map fun i => ps.getD i (Str.empty, false)) := by
  refine ⟨by simp, fun i v p hv hq => ?_⟩
  obtain ⟨k, hk, rfl⟩ := map_get hv
  obtain ⟨k', hk', rfl⟩ := map_get hq
  rw [hk] at hk'
  cases hk'
  have hlt := (perm_lt hp hk).2
  have hlen := h.1
  refine h.2 k _ _ ?_ ?_
  · rw [List.getD_eq_getElem?_getD, List.getElem?_eq_getElem hlt]; rfl
  · rw [List.getD_eq_getElem?_getD, List.getElem?_eq_getElem (by omega)]; rfl
theorem perm_mem {n : Nat} {ps : List (Str × Bool)} {pm : Array Nat} (hp : PermN n pm) (hn : ps.length = n) : ∀ p ∈ pm.toList.map fun i => ps.getD i (Str.empty, false), p ∈ ps := by
  intro p h
  obtain ⟨i, hi⟩ := List.getElem?_of_mem h
  obtain ⟨k, hk, rfl⟩ := map_get hi
  have hlt := (perm_lt hp hk).2
  rw [List.getD_eq_getElem?_getD, List.getElem?_eq_getElem (by omega)]
  exact List.getElem_mem _
theorem srt_perm {n : Nat} {ps : List (Str × Bool)} {pm : Array Nat} (hp : PermN n pm) (hn : ps.length = n) (ha : Asc (ltZ (ps.map plc)) pm n) : Srt (pm.toList.map fun i => ps.getD i (Str.empty, false)) := by
  intro i j p q hij h1 h2
  obtain ⟨k, hk, rfl⟩ := map_get h1
  obtain ⟨k', hk', rfl⟩ := map_get h2
  have l1 := perm_lt hp hk
  have l2 := perm_lt hp hk'
  have := ha i j hij l2.1
  rw [at0_get hk, at0_get hk'] at this
  unfold ltZ at this
  have g : ∀ a, a < n → (ps.map plc).getD a [] = plc (ps.getD a (Str.empty, false)) := by
    intro a ha
    rw [List.getD_eq_getElem?_getD, List.getD_eq_getElem?_getD, List.getElem?_map, List.getElem?_eq_getElem (by omega)]; rfl
  rw [g _ l1.2, g _ l2.2] at this
  exact this
end Mine
end
section
open PySem PySem.W PyProof.Rows PySem.Spec PySem.Calls PyProof.V
namespace Mine
inductive Dif : List Nat → List Nat → Prop
  | here {a b : Nat} {u v : List Nat} (h : a < b) : Dif (a :: u) (b :: v)
  | cons {a : Nat} {u v : List Nat} (h : Dif u v) : Dif (a :: u) (a :: v)
theorem Dif.lt {u v : List Nat} (h : Dif u v) : ∀ X Y, ltCps (u ++ X) (v ++ Y) = true ∧ ltCps (v ++ Y) (u ++ X) = false ∧ ¬ (u ++ X) <+: (v ++ Y) ∧ ¬ (v ++ Y) <+: (u ++ X) := by
  induction h with
  | @here a b u v h =>
    intro X Y
    refine ⟨?_, ?_, ?_, ?_⟩
    · show (decide (a < b) || _) = true
      rw [decide_eq_true h]; rfl
    · show (decide (b < a) || (b == a && _)) = false
      have h1 : ¬ b < a := by omega
      have h2 : (b == a) = false := by simp; omega
      rw [decide_eq_false h1, h2]; rfl
    · intro hp
      have := (List.cons_prefix_cons.mp hp).1
      omega
    · intro hp
      have := (List.cons_prefix_cons.mp hp).1
      omega
  | @cons a u v _ ih =>
    intro X Y
    obtain ⟨h1, h2, h3, h4⟩ := ih X Y
    refine ⟨?_, ?_, ?_, ?_⟩
    · show (decide (a < a) || (a == a && ltCps (u ++ X) (v ++ Y))) = true
      rw [h1]; simp
    · show (decide (a < a) || (a == a && ltCps (v ++ Y) (u ++ X))) = false
      rw [h2]; simp
    · exact fun hp => h3 (List.cons_prefix_cons.mp hp).2
    · exact fun hp => h4 (List.cons_prefix_cons.mp hp).2
theorem lt_same (u : List Nat) (X Y : List Nat) : ltCps (u ++ X) (u ++ Y) = ltCps X Y := by
  induction u with
  | nil => rfl
  | cons a r ih =>
    show (decide (a < a) || (a == a && ltCps (r ++ X) (r ++ Y))) = _
    rw [ih]; simp
def flat (C : Int → List Nat) (u : List Int) : List Nat := u.flatMap C
structure IsCode (R : Int → Prop) (C : Int → List Nat) : Prop where
  dif : ∀ a b, R a → R b → a < b → Dif (C a) (C b)
  ne : ∀ a, R a → C a ≠ []
section
variable {R : Int → Prop} {C : Int → List Nat}
theorem flat_cons (C : Int → List Nat) (a : Int) (r : List Int) : flat C (a :: r) = C a ++ flat C r := rfl
theorem code_ne (h : IsCode R C) {a : Int} {r : List Int} (ha : R a) : ∃ x t, flat C (a :: r) = x :: t := by
  rw [flat_cons]
  cases e : C a with
  | nil => exact absurd e (h.ne a ha)
  | cons x t => exact ⟨x, _, rfl⟩
theorem code_lt (h : IsCode R C) : ∀ u v : List Int, (∀ a ∈ u, R a) → (∀ a ∈ v, R a) → ltCps (flat C u) (flat C v) = ltL u v
  | [], [], _, _ => rfl
  | [], b :: t, _, hv => by
    obtain ⟨x, y, e⟩ := code_ne (r := t) h (hv b (List.mem_cons_self ..))
    rw [e]; rfl
  | a :: r, [], hu, _ => by
    obtain ⟨x, y, e⟩ := code_ne (r := r) h (hu a (List.mem_cons_self ..))
    rw [e]; rfl
  | a :: r, b :: t, hu, hv => by
    have ra := hu a (List.mem_cons_self ..)
    have rb := hv b (List.mem_cons_self ..)
    show _ = (if a = b then ltL r t else decide (a < b))
    by_cases e : a = b
    · rw [if_pos e, ← e, flat_cons, flat_cons, lt_same]
      exact code_lt h r t (fun x hx => hu x (List.mem_cons_of_mem _ hx)) fun x hx => hv x (List.mem_cons_of_mem _ hx)
    · rw [if_neg e, flat_cons, flat_cons]
      rcases Int.lt_or_gt_of_ne e with h1 | h1
      · rw [((h.dif a b ra rb h1).lt _ _).1, decide_eq_true h1]
      · rw [((h.dif b a rb ra h1).lt _ _).2.1, decide_eq_false (by omega)]
theorem code_pre (h : IsCode R C) : ∀ u v : List Int, (∀ a ∈ u, R a) → (∀ a ∈ v, R a) → (flat C u <+: flat C v ↔ u <+: v)
  | [], v, _, _ => ⟨fun _ => List.nil_prefix, fun _ => List.nil_prefix⟩
  | a :: r, [], hu, _ => by
    obtain ⟨x, y, e⟩ := code_ne (r := r) h (hu a (List.mem_cons_self ..))
    rw [e]
    constructor
    · intro hp
      have := List.prefix_nil.mp hp
      cases this
    · intro hp
      have := List.prefix_nil.mp hp
      cases this
  | a :: r, b :: t, hu, hv => by
    have ra := hu a (List.mem_cons_self ..)
    have rb := hv b (List.mem_cons_self ..)
    rw [List.cons_prefix_cons]
    by_cases e : a = b
    · rw [← e, flat_cons, flat_cons, List.prefix_append_right_inj]
      rw [code_pre h r t (fun x hx => hu x (List.mem_cons_of_mem _ hx)) fun x hx => hv x (List.mem_cons_of_mem _ hx)]
      exact ⟨fun h => ⟨rfl, h⟩, fun h => h.2⟩
    · rw [flat_cons, flat_cons]
      refine ⟨fun hp => ?_, fun hp => absurd hp.1 e⟩
      rcases Int.lt_or_gt_of_ne e with h1 | h1
      · exact absurd hp ((h.dif a b ra rb h1).lt _ _).2.2.1
      · exact absurd hp ((h.dif b a rb ra h1).lt _ _).2.2.2
end
def Rk (z : Int) : Prop := (∃ c : Nat, c ≠ 38 ∧ z = 8 * (c : Int)) ∨ z = 305 ∨ z = 306 ∨ z = 307 ∨ z = 308 ∨ z = 309
def T1 (z : Int) : List Nat := if z = 305 then [38, 35, 120, 50, 55, 59] else if z = 306 then [38, 97, 109, 112, 59] else if z = 307 then [38, 103, 116, 59] else if z = 308 then [38, 108, 116, 59] else if z = 309 then [38, 113, 117, 111, 116, 59] else [(z / 8).toNat]
def T2 (z : Int) : List Nat := if z = 305 then [38, 97, 109, 112, 59, 35, 120, 50, 55, 59] else if z = 306 then [38, 97, 109, 112, 59, 97, 109, 112, 59] else if z = 307 then [38, 97, 109, 112, 59, 103, 116, 59] else if z = 308 then [38, 97, 109, 112, 59, 108, 116, 59] else if z = 309 then [38, 97, 109, 112, 59, 113, 117, 111, 116, 59] else [(z / 8).toNat]
theorem rk_bare (c : Nat) : T1 (8 * (c : Int)) = [c] ∧ T2 (8 * (c : Int)) = [c] := by
  have h1 : ¬ (8 * (c : Int)) = 305 := by omega
  have h2 : ¬ (8 * (c : Int)) = 306 := by omega
  have h3 : ¬ (8 * (c : Int)) = 307 := by omega
  have h4 : ¬ (8 * (c : Int)) = 308 := by omega
  have h5 : ¬ (8 * (c : Int)) = 309 := by omega
  have h6 : ((8 * (c : Int)) / 8).toNat = c := by omega
  unfold T1 T2
  rw [if_neg h1, if_neg h2, if_neg h3, if_neg h4, if_neg h5, if_neg h1, if_neg h2, if_neg h3, if_neg h4, if_neg h5, h6]
  exact ⟨rfl, rfl⟩
theorem dif_of (C : Int → List Nat) (hb : ∀ c : Nat, C (8 * (c : Int)) = [c]) (hr : ∀ z : Int, 305 ≤ z → z ≤ 309 → ∃ t, C z = 38 :: t)
    (h56 : Dif (C 305) (C 306)) (h57 : Dif (C 305) (C 307)) (h58 : Dif (C 305) (C 308)) (h59 : Dif (C 305) (C 309)) (h67 : Dif (C 306) (C 307)) (h68 : Dif (C 306) (C 308)) (h69 : Dif (C 306) (C 309)) (h78 : Dif (C 307) (C 308)) (h79 : Dif (C 307) (C 309)) (h89 : Dif (C 308) (C 309)) : IsCode Rk C := by
  have five : ∀ z : Int, (z = 305 ∨ z = 306 ∨ z = 307 ∨ z = 308 ∨ z = 309) → 305 ≤ z ∧ z ≤ 309 := by intro z h; omega
  refine ⟨fun a b ha hb' hab => ?_, fun a ha => ?_⟩
  · rcases ha with ⟨c, hc, rfl⟩ | ha
    · rcases hb' with ⟨d, hd, rfl⟩ | hb'
      · rw [hb, hb]; exact .here (by omega)
      · obtain ⟨t, e⟩ := hr b (five b hb').1 (five b hb').2
        have := five b hb'
        rw [hb, e]; exact .here (by omega)
    · rcases hb' with ⟨d, hd, rfl⟩ | hb'
      · obtain ⟨t, e⟩ := hr a (five a ha).1 (five a ha).2
        have := five a ha
        rw [hb, e]; exact .here (by omega)
      · rcases ha with rfl | rfl | rfl | rfl | rfl <;> rcases hb' with rfl | rfl | rfl | rfl | rfl <;> first | (exfalso; omega) | assumption
  · rcases ha with ⟨c, hc, rfl⟩ | ha
    · rw [hb]; simp
    · obtain ⟨t, e⟩ := hr a (five a ha).1 (five a ha).2
      rw [e]; simp
theorem five_cases {P : Int → Prop} (h5 : P 305) (h6 : P 306) (h7 : P 307) (h8 : P 308) (h9 : P 309) : ∀ z : Int, 305 ≤ z → z ≤ 309 → P z := by
  intro z h1 h2
  have : z = 305 ∨ z = 306 ∨ z = 307 ∨ z = 308 ∨ z = 309 := by omega
  rcases this with rfl | rfl | rfl | rfl | rfl <;> assumption
theorem code1 : IsCode Rk T1 := by
  refine dif_of T1 (fun c => (rk_bare c).1) (five_cases ⟨_, rfl⟩ ⟨_, rfl⟩ ⟨_, rfl⟩ ⟨_, rfl⟩ ⟨_, rfl⟩) ?_ ?_ ?_ ?_ ?_ ?_ ?_ ?_ ?_ ?_ <;> exact .cons (.here (by decide))
theorem code2 : IsCode Rk T2 := by
  refine dif_of T2 (fun c => (rk_bare c).2) (five_cases ⟨_, rfl⟩ ⟨_, rfl⟩ ⟨_, rfl⟩ ⟨_, rfl⟩ ⟨_, rfl⟩) ?_ ?_ ?_ ?_ ?_ ?_ ?_ ?_ ?_ ?_ <;> exact .cons (.cons (.cons (.cons (.cons (.here (by decide))))))
theorem rank_rk (q : Bool) (c : Nat) : Rk (rankZ q c) ∧ T1 (rankZ q c) = tok q c ∧ T2 (rankZ q c) = escL q (tok q c) := by
  unfold rankZ tok
  by_cases h1 : c = 38
  · rw [if_pos h1, if_pos h1]
    refine ⟨.inr (by omega), rfl, ?_⟩
    cases q <;> rfl
  · rw [if_neg h1, if_neg h1]
    by_cases h2 : c = 62
    · rw [if_pos h2, if_neg (show ¬ c = 60 by omega), if_pos h2]
      refine ⟨.inr (by omega), rfl, ?_⟩
      cases q <;> rfl
    · rw [if_neg h2, if_neg h2]
      by_cases h3 : c = 60
      · rw [if_pos h3, if_pos h3]
        refine ⟨.inr (by omega), rfl, ?_⟩
        cases q <;> rfl
      · rw [if_neg h3, if_neg h3]
        by_cases h4 : q = true ∧ c = 39
        · rw [if_pos h4, if_neg (show ¬ (q = true ∧ c = 34) by omega), if_pos h4]
          refine ⟨.inr (by omega), rfl, ?_⟩
          rw [h4.1]; rfl
        · rw [if_neg h4]
          by_cases h5 : q = true ∧ c = 34
          · rw [if_pos h5, if_pos h5]
            refine ⟨.inr (by omega), rfl, ?_⟩
            rw [h5.1]; rfl
          · rw [if_neg h5, if_neg h5, if_neg h4]
            refine ⟨.inl ⟨c, h1, rfl⟩, (rk_bare c).1, ?_⟩
            rw [(rk_bare c).2]
            show _ = tok q c ++ []
            unfold tok
            rw [if_neg h1, if_neg h3, if_neg h2, if_neg h5, if_neg h4]
            rfl
def escP (p : Str × Bool) : Str := escS p.1 p.2
def agP (p : Str × Bool) : Str := escS (escS p.1 p.2) p.2
theorem plc_rk (p : Str × Bool) : ∀ a ∈ plc p, Rk a := by
  intro a ha
  obtain ⟨c, _, rfl⟩ := List.mem_map.mp ha
  exact (rank_rk p.2 c).1
theorem esc_flat (p : Str × Bool) : (escP p).cps.toList = flat T1 (plc p) := by
  show p.1.cps.toList.flatMap (tok p.2) = (p.1.cps.toList.map (rankZ p.2)).flatMap T1
  rw [List.flatMap_map]
  have : (fun c => T1 (rankZ p.2 c)) = tok p.2 := funext fun c => (rank_rk p.2 c).2.1
  rw [← this]
theorem ag_flat (p : Str × Bool) : (agP p).cps.toList = flat T2 (plc p) := by
  show (p.1.cps.toList.flatMap (tok p.2)).flatMap (tok p.2) = (p.1.cps.toList.map (rankZ p.2)).flatMap T2
  rw [List.flatMap_map, List.flatMap_assoc]
  have : (fun c => T2 (rankZ p.2 c)) = fun c => (tok p.2 c).flatMap (tok p.2) := funext fun c => (rank_rk p.2 c).2.2
  rw [← this]
theorem esc_pre (p q : Str × Bool) : ((escP p).cps.toList <+: (escP q).cps.toList) ↔ plc p <+: plc q := by
  rw [esc_flat, esc_flat]; exact code_pre code1 _ _ (plc_rk p) (plc_rk q)
theorem ag_pre (p q : Str × Bool) : ((agP p).cps.toList <+: (agP q).cps.toList) ↔ plc p <+: plc q := by
  rw [ag_flat, ag_flat]; exact code_pre code2 _ _ (plc_rk p) (plc_rk q)
theorem pw_of {ps : List (Str × Bool)} (h : Srt ps) (f : Str × Bool → Str) (hf : ∀ p q, ltCps (f q).cps.toList (f p).cps.toList = ltL (plc q) (plc p)) : (ps.map f).Pairwise (fun a b => ltCps b.cps.toList a.cps.toList = false) := by
  rw [List.pairwise_iff_getElem]
  intro i j hi hj hij
  rw [List.length_map] at hi hj
  rw [List.getElem_map, List.getElem_map, hf]
  exact h i j _ _ (Nat.le_of_lt hij) (List.getElem?_eq_getElem hi) (List.getElem?_eq_getElem hj)
theorem pw_esc {ps : List (Str × Bool)} (h : Srt ps) : (ps.map escP).Pairwise (fun a b => ltCps b.cps.toList a.cps.toList = false) :=
  pw_of h escP fun p q => by rw [esc_flat, esc_flat]; exact code_lt code1 _ _ (plc_rk q) (plc_rk p)
theorem pw_ag {ps : List (Str × Bool)} (h : Srt ps) : (ps.map agP).Pairwise (fun a b => ltCps b.cps.toList a.cps.toList = false) :=
  pw_of h agP fun p q => by rw [ag_flat, ag_flat]; exact code_lt code2 _ _ (plc_rk q) (plc_rk p)
theorem ltC_tot : ∀ a b : List Nat, ltCps a b = false → ltCps b a = false → a = b
  | [], [], _, _ => rfl
  | [], _ :: _, h, _ => by cases h
  | _ :: _, [], _, h => by cases h
  | a :: r, b :: t, h1, h2 => by
    have h1 : (decide (a < b) || (a == b && ltCps r t)) = false := h1
    have h2 : (decide (b < a) || (b == a && ltCps t r)) = false := h2
    rw [Bool.or_eq_false_iff] at h1 h2
    have n1 := of_decide_eq_false h1.1
    have n2 := of_decide_eq_false h2.1
    have e : a = b := by omega
    subst e
    have g1 : ltCps r t = false := by simpa using h1.2
    have g2 : ltCps t r = false := by simpa using h2.2
    rw [ltC_tot r t g1 g2]
theorem ltC_trans : ∀ a b c : List Nat, ltCps b a = false → ltCps c b = false → ltCps c a = false
  | [], [], [], _, _ => rfl
  | [], [], _ :: _, _, _ => rfl
  | [], _ :: _, [], _, h => by cases h
  | [], _ :: _, _ :: _, _, _ => rfl
  | _ :: _, [], _, h, _ => by cases h
  | _ :: _, _ :: _, [], _, h => by cases h
  | a :: r, b :: t, c :: q, h1, h2 => by
    have g1 : (decide (b < a) || (b == a && ltCps t r)) = false := h1
    have g2 : (decide (c < b) || (c == b && ltCps q t)) = false := h2
    show (decide (c < a) || (c == a && ltCps q r)) = false
    rw [Bool.or_eq_false_iff] at g1 g2 ⊢
    have n1 := of_decide_eq_false g1.1
    have n2 := of_decide_eq_false g2.1
    refine ⟨decide_eq_false (by omega), ?_⟩
    by_cases e : c = a
    · have e1 : b = a := by omega
      have e2 : c = b := by omega
      have k1 : ltCps t r = false := by have := g1.2; rw [e1] at this; simpa using this
      have k2 : ltCps q t = false := by have := g2.2; rw [e2] at this; simpa using this
      rw [ltC_trans r t q k1 k2]; simp
    · have : (c == a) = false := by simp [e]
      rw [this]; rfl
theorem pw_rising : ∀ (l : List Str) (p : Str), risingS p l = true → (p :: l).Pairwise (fun a b => ltCps b.cps.toList a.cps.toList = false)
  | [], p, _ => List.pairwise_singleton ..
  | x :: r, p, h => by
    have h : (!ltCps x.cps.toList p.cps.toList && risingS x r) = true := h
    rw [Bool.and_eq_true] at h
    have h1 : ltCps x.cps.toList p.cps.toList = false := by simpa using h.1
    have ih := pw_rising r x h.2
    refine List.pairwise_cons.mpr ⟨fun y hy => ?_, ih⟩
    rcases List.mem_cons.mp hy with rfl | hy
    · exact h1
    · exact ltC_trans _ _ _ h1 ((List.pairwise_cons.mp ih).1 y hy)
theorem pw_sorted : ∀ (l : List Str), sortedS l = true → l.Pairwise (fun a b => ltCps b.cps.toList a.cps.toList = false)
  | [], _ => .nil
  | x :: r, h => pw_rising r x h
theorem sorted_same {l l' : List Str} (hp : l'.Perm l) (hs : sortedS l' = true) (hl : l.Pairwise (fun a b => ltCps b.cps.toList a.cps.toList = false)) : l' = l :=
  List.Perm.eq_of_pairwise (fun a b _ _ h1 h2 => (str_eq_iff a b).mpr (ltC_tot _ _ h2 h1)) (pw_sorted l' hs) hl hp
end Mine
end
section
open PySem PySem.W PyProof.Rows PySem.Spec PySem.Calls PyProof.V
namespace Mine
theorem starts_iff (x y : Str) : Txt.startswith x y = true ↔ y.cps.toList <+: x.cps.toList := by
  have lx : x.cps.toList.length = x.length := Array.length_toList
  have ly : y.cps.toList.length = y.length := Array.length_toList
  unfold Txt.startswith
  rw [StrLaws.subAt_eq, Bool.and_eq_true, decide_eq_true_eq, List.drop_zero, beq_iff_eq, List.prefix_iff_eq_take, ly]
  constructor
  · intro h; exact h.2.symm
  · intro h
    refine ⟨?_, h.symm⟩
    have := congrArg List.length h
    rw [List.length_take] at this
    omega
theorem opens_iff (u v : List Int) : (decide (v.take u.length = u)) = true ↔ u <+: v := by
  rw [decide_eq_true_eq, List.prefix_iff_eq_take]
  exact ⟨fun h => h.symm, fun h => h.symm⟩
theorem bool_iff {a b : Bool} {p : Prop} (h1 : a = true ↔ p) (h2 : b = true ↔ p) : a = b := by
  cases a <;> cases b <;> simp_all
theorem once_opens (p q : Str × Bool) : Txt.startswith (escP q) (escP p) = decide ((plc q).take (plc p).length = plc p) :=
  bool_iff ((starts_iff _ _).trans (esc_pre p q)) (opens_iff _ _)
theorem again_opens (p q : Str × Bool) : Txt.startswith (agP q) (agP p) = decide ((plc q).take (plc p).length = plc p) :=
  bool_iff ((starts_iff _ _).trans (ag_pre p q)) (opens_iff _ _)
theorem ints_take : ∀ {vs : List Value} {ns : List Int} (k : Nat), IntsAre vs ns → IntsAre (vs.take k) (ns.take k)
  | _, _, 0, h => by rw [List.take_zero, List.take_zero]; exact .nil
  | _, _, k + 1, .nil => .nil
  | _, _, k + 1, .cons a t r => .cons a t (ints_take k r)
end Mine
end
section
open PySem PySem.W PyProof.Rows PySem.Spec PySem.Calls PyProof.V
namespace Mine
def ZEnd (h₀ : Heap) (L : Addr) (m : Str → Option Value) (s₁ : Shared) (Z : List (Addr × Obj)) (G : Value → Prop) (y : Value) (s₂ : Shared) : Prop :=
  ∃ h' tk, s₂ = { s₁ with heap := h', toks := tk } ∧ Fr h₀ L h' m ∧ News h₀ L h' Z ∧ G y
section
variable {prog : Program} {w : World} {A : Around} {E : Value → Shared → Prop} {s : Shared} {h₀ : Heap} {L : Addr} {m : Str → Option Value} {env : Env}
theorem blockZ {elt iter : Expr} {x x₂ : Str} {px px₂ tp : Pos} {tk} {scope : Scope} {cl : List (Str × Addr)} {pos : Pos} {s₂ : Shared} {I : Addr} {fp wr : List Addr} {n : Nat} {P Md : Nat → Value → Heap → Prop} {St : Nat → Heap → Prop} {news : List (Addr × Obj)} {Pv : Nat → Value → Value → Prop}
    {G : Nat → Value → Prop} {RR : Value → Addr → Result → Shared → Prop}
    (W : KTurns prog w A (.Tuple [.Name x px, .Name x₂ px₂] tk tp) I fp wr n P Md St) (hsz : n ≤ 1000) (hP : ∀ i v h, P i v h → ∃ T a b, v = .ref T ∧ IsTup h T #[a, b] ∧ Pv i a b)
    (hself : ∀ (s : Shared) (Q : Value → Shared → Prop) (E : Value → Shared → Prop), St 0 s.heap → Q (.ref I) s → wpAny (model prog w) A (pyIter (.ref I)) Q E s)
    (hcell : ∀ y ∈ scope.names, y.2 ≠ .cell) (hkind : scope.kind = .function) (hx : scope.names.lookup x = some .local) (hx₂ : scope.names.lookup x₂ = some .local) (hxx : x ≠ x₂) (hh : A.handled = none)
    (hst : St 0 s₂.heap) (hfp : ∀ b ∈ fp, @LT.lt Nat instLTNat b s₂.heap.objs.size) (hLf : L ∉ fp) (hwr : ∀ b ∈ wr, h₀.get? b = none) (hnw : ∀ p ∈ news, p.1 ∉ wr)
    (F : Fr h₀ L s₂.heap m) (N : News h₀ L s₂.heap news)
    (turn : ∀ i a b C oC m₂ h tk Z (E' : Value → Shared → Prop), i < n → Pv i a b → LCg.NsObj oC m₂ → m₂ x = some a → m₂ x₂ = some b → Fr h₀ L h m → News h₀ L h ((C, oC) :: Z) → (∀ p ∈ news, p ∈ Z) →
      wpAny (model prog w) A (eval elt (compEnvC scope cl C env)) (ZEnd h₀ L m { s₂ with heap := h, toks := tk } ((C, oC) :: Z) (G i)) E' { s₂ with heap := h, toks := tk })
    (hRR : ∀ D C h tk m' ys, Fr h₀ L h m → News h₀ L h ((D, LCg.lst ys) :: news) → (∀ p ∈ news, p.1 ≠ D) → h.Ns C m' → h₀.get? C = none → h₀.get? D = none → C ≠ L → D ≠ L → C ≠ D → (∀ p ∈ news, p.1 ≠ C) → (∀ p ∈ news, p.1 < D) → ys.length = n → (∀ i y, ys[i]? = some y → G i y) → RR (.ref D) C (.ok .next) { s₂ with heap := h, toks := tk }) :
    wpAny (model prog w) A (newList []) (fun acc s₃ => wpAny (model prog w) A (newFunctionEnv scope env.globals cl [] env.qual none .none (some env)) (fun cenv s₄ =>
      codeAny (model prog w) A (.compStart (.ListComp elt [⟨.Tuple [.Name x px, .Name x₂ px₂] tk tp, iter, [], 0⟩] scope pos) 0 (.ref I) acc { cenv with scope := relabel scope env }) (RR acc cenv.locals) s₄) E s₃) E s₂ := by
  refine wpAny_newObj_type (wpAny_newFunctionEnv hcell (by intro y hy; simp at hy) (fun h₁ hns₁ hsb₁ => ?_) hkind)
  dsimp only at hns₁ hsb₁ ⊢
  generalize hH2 : s₂.heap.push { cls := .type "list", dict := none, data := .seq ([] : List Value).toArray } = H2 at hns₁ hsb₁ ⊢
  have hC : H2.objs.size = s₂.heap.objs.size + 1 := by rw [← hH2, Heap.size_push]
  have hDC : s₂.heap.objs.size ≠ H2.objs.size := by rw [hC]; exact Nat.ne_of_lt (Nat.lt_succ_self _)
  have below : ∀ b, b < s₂.heap.objs.size → b ≠ H2.objs.size ∧ b ≠ s₂.heap.objs.size := fun b hb => ⟨by rw [hC]; exact Nat.ne_of_lt (Nat.lt_succ_of_lt hb), Nat.ne_of_lt hb⟩
  have old : ∀ b o, s₂.heap.get? b = some o → h₁.get? b = some o := fun b o e => hsb₁.extBut b o (below b (Heap.lt_size e)).1 (Heap.get?_push_of_some _ (hH2 ▸ Heap.get?_push_of_some _ e))
  have hacc : h₁.get? s₂.heap.objs.size = some (LCg.lst []) := hsb₁.extBut _ _ hDC (Heap.get?_push_of_some _ (hH2 ▸ Heap.get?_push_size _ rfl))
  have fresh : ∀ a, s₂.heap.objs.size ≤ a → s₂.heap.get? a = none := fun a ha => by
    cases e : s₂.heap.get? a with
    | none => rfl
    | some o' => exact absurd (Heap.lt_size e) (Nat.not_lt.mpr ha)
  have fresh₀ : ∀ a : Nat, s₂.heap.objs.size ≤ a → h₀.get? a = none := fun a ha => by
    cases e : h₀.get? a with
    | none => rfl
    | some o' => have := F.keep a o' e; rw [fresh a ha] at this; cases this
  have hLlt : @LT.lt Nat instLTNat L s₂.heap.objs.size := F.ns.lt
  have newsLt : ∀ p ∈ news, @LT.lt Nat instLTNat p.1 s₂.heap.objs.size := fun p hp => Heap.lt_size (N p hp).1
  generalize hDd : s₂.heap.objs.size = D at *
  generalize H2.objs.size = C at *
  have hD₀ : h₀.get? D = none := fresh₀ _ (Nat.le_refl _)
  have hC₀ : h₀.get? C = none := fresh₀ _ (by omega)
  have hDL : D ≠ L := neA (by omega)
  have hCL : C ≠ L := neA (by omega)
  have hCD : C ≠ D := neA (by omega)
  have hDf : D ∉ fp := fun hm => Nat.lt_irrefl _ (hfp _ hm)
  have hCf : C ∉ fp := fun hm => by have := hfp _ hm; omega
  have hDw : D ∉ wr := fun hm => hDf (W.sub _ hm)
  have hCw : C ∉ wr := fun hm => hCf (W.sub _ hm)
  have hLw : L ∉ wr := fun hm => hLf (W.sub _ hm)
  have oldw : ∀ b o, h₀.get? b = some o → b ∉ wr := fun b o e hb => by rw [hwr b hb] at e; cases e
  have next : ∀ {h h' : Heap} {ys : List Value}, (∀ b o, b ∉ wr → h.get? b = some o → h'.get? b = some o) → Fr h₀ L h m → News h₀ L h ((D, LCg.lst ys) :: news) → Fr h₀ L h' m ∧ News h₀ L h' ((D, LCg.lst ys) :: news) := fun {h h' ys} hk F' N' =>
    ⟨⟨F'.ns.at' fun o e => hk _ o hLw e, fun b o e => hk b o (oldw b o e) (F'.keep b o e), F'.above⟩, fun p hp => ⟨hk _ _ (by
      rcases List.mem_cons.mp hp with rfl | hp
      · exact hDw
      · exact hnw p hp) (N' p hp).1, (N' p hp).2⟩⟩
  have kI : (compEnvC scope cl C env).scope.kind = .function := by simp [compEnvC, relabel, hkind]
  have loop : ∀ s₃ : Shared, s₃ = { s₂ with heap := h₁, toks := s₂.toks + ([] : List (Str × Value)).length } →
      codeAny (model prog w) A (.compLoop (.ListComp elt [⟨.Tuple [.Name x px, .Name x₂ px₂] tk tp, iter, [], 0⟩] scope pos) 0 (.ref I) (.ref D) (compEnvC scope cl C env))
        (RR (.ref D) C) s₃ := by
    rintro s₃ rfl
    refine LCp.codeAny_compLoop_pair
      (fun k s' => ∃ h' tk i ys m', s' = { s₂ with heap := h', toks := tk } ∧ i ≤ n ∧ k = n + 1 - i ∧ ys.length = i ∧ St i h' ∧ Fr h₀ L h' m ∧ h'.Ns C m' ∧ News h₀ L h' ((D, LCg.lst ys) :: news) ∧ (∀ j y, ys[j]? = some y → G j y)) ?_ (n + 1)
      ⟨h₁, _, 0, [], _, rfl, Nat.zero_le _, rfl, rfl, W.frame _ _ _ hst fun b _ o e => old b o e, F.keeps old, hns₁, fun p hp => ?_, by intro j y h; simp at h⟩
    · rintro k s' ⟨h', tk', i, ys, m', rfl, hi, rfl, hyl, hst', F', hn', N', hG⟩
      by_cases hlt : i < n
      · refine W.item i _ _ _ hlt hst' fun v h₂ tk₂ hMd hk₂ => ?_
        obtain ⟨F₂, N₂⟩ := next hk₂ F' N'
        have hn₂ := hn'.at' fun o e => hk₂ _ o hCw e
        refine W.go i v _ _ _ hMd fun h₅ hPv hst₅ hk₅ => ?_
        dsimp only at hk₅
        obtain ⟨F₅, N₅⟩ := next hk₅ F₂ N₂
        have hn₅ := hn₂.at' fun o e => hk₅ _ o hCw e
        obtain ⟨T, a, b, rfl, hT, hab⟩ := hP i v h₅ hPv
        refine assign_Tuple_tuple hh hT rfl rfl fun h₇ he => ?_
        have he' : ∀ b o, h₅.get? b = some o → h₇.get? b = some o := fun b o e => he b o (Nat.ne_of_lt (Heap.lt_size e)) e
        refine assignInOrder_cons (wpAny_assign_Name (wpAny_storeName_local (lookup_relabel_local hx) (hn₅.at' fun o e => he' _ o e) (fun h₆ hn₆ hs₆ => ?_) (by simp [compEnvC, relabel, hkind])))
        refine assignInOrder_cons (wpAny_assign_Name (wpAny_storeName_local (lookup_relabel_local hx₂) hn₆ (fun h₃ hn₃ hs₃ => ?_) (by simp [compEnvC, relabel, hkind])))
        refine assignInOrder_nil ?_
        have hs₆ : Heap.SameBut C h₇ h₆ := hs₆
        have hs₃ : Heap.SameBut C h₆ h₃ := hs₃
        have old3 : ∀ b o, b ≠ C → h₅.get? b = some o → h₃.get? b = some o := fun b o hb e => hs₃.extBut b o hb (hs₆.extBut b o hb (he' b o e))
        have hst₃ : St (i + 1) h₃ := W.frame _ _ _ hst₅ fun b hb o e => old3 b o (fun q => hCf (by rw [← q]; exact hb)) e
        obtain ⟨oC, heC, hoC⟩ := LCg.ns_obj hn₃
        have F₃ : Fr h₀ L h₃ m := ((F₅.keeps he').change hs₆ hCL hC₀).change hs₃ hCL hC₀
        have N₃ : News h₀ L h₃ ((C, oC) :: ((D, LCg.lst ys) :: (ownOf h₀ fp h₃ ++ news))) := fun p hp => by
          rcases List.mem_cons.mp hp with rfl | hp
          · exact ⟨heC, hCL, hC₀⟩
          rcases List.mem_cons.mp hp with rfl | hp
          · have z := N₅ _ (List.mem_cons_self ..)
            exact ⟨old3 _ _ (Ne.symm hCD) z.1, z.2⟩
          rcases List.mem_append.mp hp with hp | hp
          · exact news_ownOf hLf p hp
          · have z := N₅ p (List.mem_cons_of_mem _ hp)
            exact ⟨old3 _ _ (by have := newsLt p hp; exact neA (by omega)) z.1, z.2⟩
        refine wpAny_mono (turn i a b C oC _ h₃ _ _ _ hlt hab hoC (by simp [hxx]) (by simp) F₃ N₃ (fun p hp => List.mem_cons_of_mem _ (List.mem_append_right _ hp))) (fun y s₄ h₄ => ?_) fun _ _ e => e
        obtain ⟨h₄, tk₄, rfl, F₄, N₄, hy⟩ := h₄
        have zC := (N₄ (C, oC) List.mem_cons_self).1
        have zD := (N₄ (D, LCg.lst ys) (List.mem_cons_of_mem _ List.mem_cons_self)).1
        have hst₄ : St (i + 1) h₄ := W.frame _ _ _ hst₃ fun b hb o e => by
          cases hn : h₀.get? b with
          | some o₀ =>
            have : o₀ = o := by have q := F₃.keep b o₀ hn; rw [e] at q; exact (Option.some.inj q).symm
            exact this ▸ F₄.keep b o₀ hn
          | none => exact (N₄ (b, o) (List.mem_cons_of_mem _ (List.mem_cons_of_mem _ (List.mem_append_left _ (mem_ownOf hb hn e))))).1
        refine append_at (hsz := by show ys.toArray.size ≤ sizeLine; rw [List.size_toArray, sizeLine_eq]; omega) zD fun h₈ hs₈ hD₈ => ?_
        refine ⟨n + 1 - (i + 1), by omega, h₈, tk₄, i + 1, ys ++ [y], _, rfl, hlt, rfl, by rw [List.length_append, List.length_singleton, hyl], W.frame _ _ _ hst₄ fun b hb o e => hs₈.extBut b o (fun q => hDf (q ▸ hb)) e, F₄.change hs₈ hDL hD₀,
          (hoC.ns zC).sameBut hs₈ hCD, fun p hp => ?_, ?_⟩
        · rcases List.mem_cons.mp hp with rfl | hp
          · exact ⟨hD₈.trans (congrArg some (LCg.lst_snoc ys y)), hDL, hD₀⟩
          · have z := N₄ p (List.mem_cons_of_mem _ (List.mem_cons_of_mem _ (List.mem_append_right _ hp)))
            exact ⟨hs₈.extBut _ _ (by have := newsLt p hp; exact neA (by omega)) z.1, z.2⟩
        · intro j y' hj
          rcases Nat.lt_or_ge j ys.length with hlt' | hge
          · rw [List.getElem?_append_left hlt'] at hj
            exact hG j y' hj
          · rw [List.getElem?_append_right hge] at hj
            have h0 : j - ys.length = 0 := by
              rcases Nat.eq_zero_or_pos (j - ys.length) with h0 | hp
              · exact h0
              · rw [List.getElem?_eq_none (show [y].length ≤ _ from hp)] at hj; cases hj
            rw [h0] at hj
            have e1 : y = y' := by simpa using hj
            have e2 : j = i := by omega
            rw [← e1, e2]; exact hy
      · obtain rfl : i = n := Nat.le_antisymm hi (Nat.not_lt.mp hlt)
        refine W.done _ _ _ hst' fun h₂ tk₂ hk₂ => ?_
        obtain ⟨F₂, N₂⟩ := next hk₂ F' N'
        exact hRR _ _ h₂ tk₂ _ ys F₂ N₂ (fun p hp => by have := newsLt p hp; exact neA (by omega)) (hn'.at' fun o e => hk₂ _ o hCw e) hC₀ hD₀ hCL hDL hCD (fun p hp => by have := newsLt p hp; exact neA (by omega)) newsLt hyl hG
    · rcases List.mem_cons.mp hp with rfl | hp
      · exact ⟨hacc, hDL, hD₀⟩
      · exact ⟨old _ _ (N p hp).1, (N p hp).2⟩
  exact codeAny_compStart_list (loop _ rfl) (hself _ _ _ (W.frame _ _ _ hst fun b _ o e => old b o e) (loop _ rfl))
def SrcZ (prog : Program) (w : World) (A : Around) (h₀ : Heap) (L : Addr) (m : Str → Option Value) (env : Env) (elt : Expr) (x x₂ : Str) (scope : Scope) (cl : List (Str × Addr)) (y : Str) (Q : Flow → Shared → Prop) (xv : Value) (s₁ : Shared) : Prop :=
  ∃ (z TI TO i1 i2 l1 l2 : Addr) (xs ys : List Value) (news : List (Addr × Obj)) (G : Nat → Value → Prop), xv = .ref z ∧ Fr h₀ L s₁.heap m ∧ News h₀ L s₁.heap news ∧ ZipApart z TI TO i1 i2 l1 l2 ∧ xs.length = ys.length ∧ xs.length ≤ 1000 ∧
    (IsZip s₁.heap z TI TO .none ∧ IsPair s₁.heap TI (.ref i1) (.ref i2) ∧ (∃ a b, IsPair s₁.heap TO a b) ∧ s₁.heap.IsListIter i1 l1 0 ∧ s₁.heap.IsListIter i2 l2 0 ∧ s₁.heap.IsList l1 xs.toArray ∧ s₁.heap.IsList l2 ys.toArray) ∧
    L ∉ [z, TI, TO, i1, i2, l1, l2] ∧ (∀ b ∈ [z, TO, i1, i2], h₀.get? b = none) ∧ (∀ p ∈ news, p.1 ∉ [z, TO, i1, i2]) ∧
    (∀ g i a b C oC m₂ h tk Z (E' : Value → Shared → Prop), xs[i]? = some a → ys[i]? = some b → LCg.NsObj oC m₂ → m₂ x = some a → m₂ x₂ = some b → Fr h₀ L h m → News h₀ L h ((C, oC) :: Z) → (∀ p ∈ news, p ∈ Z) →
      wpAny (model prog w) A (eval elt (compEnvC scope cl C env)) (ZEnd h₀ L m { ({ s₁ with heap := g } : Shared) with heap := h, toks := tk } ((C, oC) :: Z) (G i)) E' { ({ s₁ with heap := g } : Shared) with heap := h, toks := tk }) ∧
    ∀ D h tk zs, Fr h₀ L h (fun q => if q = y then some (.ref D) else m q) → News h₀ L h ((D, LCg.lst zs) :: news) → (∀ p ∈ news, p.1 < D) → zs.length = xs.length → (∀ i v, zs[i]? = some v → G i v) → Q .next { s₁ with heap := h, toks := tk }
theorem Assign_Z {elt iter : Expr} {x x₂ y : Str} {px px₂ tp py : Pos} {tk} {scope : Scope} {cl : List (Str × Addr)} {pos spos : Pos} {Q : Flow → Shared → Prop} (_F₀ : Fr h₀ L s.heap m) (hLe : env.locals = L)
    (hsw : swapsWith (.ListComp elt [⟨.Tuple [.Name x px, .Name x₂ px₂] tk tp, iter, [], 0⟩] scope pos) (some (.Name y py)) spos.line env = pure true)
    (hclos : closureFor scope env = pure cl) (hcell : ∀ z ∈ scope.names, z.2 ≠ .cell) (hkind : scope.kind = .function)
    (hnames : ∀ z ∈ scope.names, z.2 = .local → scope.names.lookup z.1 = some .local) (hx : scope.names.lookup x = some .local) (hx₂ : scope.names.lookup x₂ = some .local) (hxx : x ≠ x₂) (hh : A.handled = none)
    (hy : env.kindOf y = some .local) (hp : (env.scope.kind == .class || (env.scope.kind == .module && env.locals != env.globals)) = false)
    (h : wpAny (model prog w) A (eval iter env) (SrcZ prog w A h₀ L m env elt x x₂ scope cl y Q) E s)
    (hs : ∀ x, foldedSetIterable iter env x = pure x := by intro _; rfl) :
    wpAny (model prog w) A (exec (.Assign [.Name y py] (.ListComp elt [⟨.Tuple [.Name x px, .Name x₂ px₂] tk tp, iter, [], 0⟩] scope pos) spos) env) Q E s := by
  subst hLe
  rw [exec_Assign_Name_used _ _ _ _ hsw]
  refine wpAny_bind (wpAny_standAt (wpAny_bind ?_))
  show wpAny _ A (do let _ ← comprehension (.ListComp elt [⟨.Tuple [.Name x px, .Name x₂ px₂] tk tp, iter, [], 0⟩] scope pos) scope env _ (newList []) false (eval iter env) (some (assign (.Name y py) env))) _ _ s
  refine wpAny_bind (wpAny_mono (wpAny_comprehension_free (use := some (assign (.Name y py) env)) (Q := fun _ s' => Q .next s') rfl hs hclos hkind hnames
    (wpAny_mono h (fun xv s₁ h₁ => ?_) fun _ _ e => e)) (fun _ s' hq => wpAny_pure (wpAny_pure hq)) fun _ _ e => e)
  obtain ⟨z, TI, TO, i1, i2, l1, l2, xs, ys, news, G, rfl, F, N, Dz, hxy, hsz, hst, hLf, hwr, hnw, turn, R⟩ := h₁
  refine wpAny_pyIter_zip hst.1 ?_
  have W := (KTurns.ofWalksU (elts := [.Name x px, .Name x₂ px₂]) (k := tk) (pos := tp) (WalksT.zip2 (prog := prog) (w := w) hh z TI TO i1 i2 l1 l2 Dz xs.toArray ys.toArray).toU)
  have hmin : min xs.toArray.size ys.toArray.size = xs.length := by simp; omega
  rw [hmin] at W
  have lz : @LT.lt Nat instLTNat z s₁.heap.objs.size := Heap.lt_size hst.1
  have lTI : @LT.lt Nat instLTNat TI s₁.heap.objs.size := Heap.lt_size hst.2.1
  have lTO : @LT.lt Nat instLTNat TO s₁.heap.objs.size := by obtain ⟨a, b, e⟩ := hst.2.2.1; exact Heap.lt_size e
  have li1 : @LT.lt Nat instLTNat i1 s₁.heap.objs.size := by obtain ⟨o, e, _⟩ := hst.2.2.2.1; exact Heap.lt_size e
  have li2 : @LT.lt Nat instLTNat i2 s₁.heap.objs.size := by obtain ⟨o, e, _⟩ := hst.2.2.2.2.1; exact Heap.lt_size e
  have ll1 : @LT.lt Nat instLTNat l1 s₁.heap.objs.size := by obtain ⟨o, e, _⟩ := hst.2.2.2.2.2.1; exact Heap.lt_size e
  have ll2 : @LT.lt Nat instLTNat l2 s₁.heap.objs.size := by obtain ⟨o, e, _⟩ := hst.2.2.2.2.2.2; exact Heap.lt_size e
  refine blockZ (s₂ := s₁) (Pv := fun i a b => xs[i]? = some a ∧ ys[i]? = some b) (G := G) W hsz ?_ (fun s Q E st hq => wpAny_pyIter_zip st.1 hq) hcell hkind hx hx₂ hxx hh hst ?_ hLf hwr hnw F N
    (fun i a b C oC m₂ h tk Z E' hi hab hC hxa hxb F' N' hZ => turn s₁.heap i a b C oC m₂ h tk Z E' hab.1 hab.2 hC hxa hxb F' N' hZ) ?_
  · rintro i v h ⟨T, vals, rfl, ⟨a, b, ha, hb, rfl⟩, hT⟩
    exact ⟨T, a, b, rfl, hT, by simpa using ha, by simpa using hb⟩
  · intro b hb
    have hb' : b = z ∨ b = TI ∨ b = TO ∨ b = i1 ∨ b = i2 ∨ b = l1 ∨ b = l2 := by simpa using hb
    rcases hb' with rfl | rfl | rfl | rfl | rfl | rfl | rfl <;> assumption
  · intro D C h' tk m' zs F' N' o1 hn hC₀ hD₀ hCL hDL hCD offC lt1 hl hG
    show wpAny _ A (assign (.Name y py) env (.ref D)) _ _ _
    refine wpAny_assign_Name (wpAny_storeName_local hy F'.ns (fun h₂ hn₂ hs₂ => ?_) hp)
    have hL₀ : h₀.get? env.locals = none := Heap.get?_none_of_le F'.above
    have F₂ : Fr h₀ env.locals h₂ (fun z => if z = y then some (.ref D) else m z) := ⟨hn₂, fun b o e => hs₂.extBut b o (fun q => by rw [q, hL₀] at e; cases e) (F'.keep b o e), F'.above⟩
    refine ⟨m', hn.sameBut hs₂ hCL, fun h'' hs'' => R D h'' _ zs (F₂.change hs'' hCL hC₀) (fun p hp => ?_) lt1 hl hG⟩
    have z : h₂.get? p.1 = some p.2 := hs₂.extBut _ _ (N' p hp).2.1 (N' p hp).1
    refine ⟨hs''.extBut _ _ ?_ z, (N' p hp).2⟩
    rcases List.mem_cons.mp hp with rfl | hp
    · exact Ne.symm hCD
    · exact offC p hp
end
end Mine
end
section
open PySem PySem.W PyProof.Rows PySem.Spec PySem.Calls PyProof.V
namespace Mine
section
variable {prog : Program} {w : World} {A : Around} {E : Value → Shared → Prop} {s : Shared} {h₀ : Heap} {L : Addr} {m : Str → Option Value} {env : Env}
theorem zip_src {elt : Expr} {x x₂ y : Str} {scope : Scope} {cl : List (Str × Addr)} {Q : Flow → Shared → Prop} {l1 l2 : Addr} {xs ys : List Value} {n1 n2 : Nat} {news : List (Addr × Obj)} (G : Nat → Value → Prop)
    (F : Fr h₀ L s.heap m) (N : News h₀ L s.heap news) (hm1 : (l1, W.listOf (List.toArray xs) n1) ∈ news) (hm2 : (l2, W.listOf (List.toArray ys) n2) ∈ news) (hxy : xs.length = ys.length) (hsz : xs.length ≤ 1000)
    (turn : ∀ i a b C oC m₂ h tk Z (E' : Value → Shared → Prop), xs[i]? = some a → ys[i]? = some b → LCg.NsObj oC m₂ → m₂ x = some a → m₂ x₂ = some b → Fr h₀ L h m → News h₀ L h ((C, oC) :: Z) → (∀ p ∈ news, p ∈ Z) →
      wpAny (model prog w) A (eval elt (compEnvC scope cl C env)) (ZEnd h₀ L m { s with heap := h, toks := tk } ((C, oC) :: Z) (G i)) E' { s with heap := h, toks := tk })
    (fin : ∀ D h tk zs, Fr h₀ L h (fun q => if q = y then some (.ref D) else m q) → News h₀ L h ((D, LCg.lst zs) :: news) → (∀ p ∈ news, p.1 < D) → zs.length = xs.length → (∀ i v, zs[i]? = some v → G i v) → Q .next { s with heap := h, toks := tk }) :
    wpAny (model prog w) A (call (.type "zip") [.ref l1, .ref l2]) (SrcZ prog w A h₀ L m env elt x x₂ scope cl y Q) E s := by
  have hax1 := N _ hm1
  have hax2 := N _ hm2
  have hl1 : s.heap.IsList l1 xs.toArray := isListN N hm1
  have hl2 : s.heap.IsList l2 ys.toArray := isListN N hm2
  have hlt1 : @LT.lt Nat instLTNat l1 s.heap.objs.size := Heap.lt_size hax1.1
  have hlt2 : @LT.lt Nat instLTNat l2 s.heap.objs.size := Heap.lt_size hax2.1
  have hLs : @LT.lt Nat instLTNat L s.heap.objs.size := F.ns.lt
  have D : ZipApart (s.heap.objs.size + 4) (s.heap.objs.size + 2) (s.heap.objs.size + 3) s.heap.objs.size (s.heap.objs.size + 1) l1 l2 := ktu_apart _ _ _ hlt1 hlt2
  refine call_zip_2 hl1 hl2 fun h' hz hTI hTO hi1 hi2 hsz' hk => ?_
  refine ⟨_, _, _, _, _, l1, l2, xs, ys, news, G, rfl, F.keeps hk, N.grown hk, D, hxy, hsz, ⟨hz, hTI, ⟨_, _, hTO⟩, hi1, hi2, hl1.at fun o e => hk l1 o e, hl2.at fun o e => hk l2 o e⟩, ?_, ?_, ?_, ?_, ?_⟩
  · intro hI'
    have hb' : L = s.heap.objs.size + 4 ∨ L = s.heap.objs.size + 2 ∨ L = s.heap.objs.size + 3 ∨ L = s.heap.objs.size ∨ L = s.heap.objs.size + 1 ∨ L = l1 ∨ L = l2 := by simpa using hI'
    rcases hb' with e | e | e | e | e | e | e
    · exact ktu_ne 4 hLs e
    · exact ktu_ne 2 hLs e
    · exact ktu_ne 3 hLs e
    · exact Nat.ne_of_lt hLs e
    · exact ktu_ne 1 hLs e
    · exact hax1.2.1 e.symm
    · exact hax2.2.1 e.symm
  · intro b hb
    have hb' : b = s.heap.objs.size + 4 ∨ b = s.heap.objs.size + 3 ∨ b = s.heap.objs.size ∨ b = s.heap.objs.size + 1 := by simpa using hb
    rcases hb' with rfl | rfl | rfl | rfl
    · exact ktu_new F (Nat.le_add_right _ _)
    · exact ktu_new F (Nat.le_add_right _ _)
    · exact ktu_new F (Nat.le_refl _)
    · exact ktu_new F (Nat.le_add_right _ _)
  · intro p hp hI'
    have hb' : p.1 = s.heap.objs.size + 4 ∨ p.1 = s.heap.objs.size + 3 ∨ p.1 = s.heap.objs.size ∨ p.1 = s.heap.objs.size + 1 := by simpa using hI'
    have hlp := Heap.lt_size (N p hp).1
    rcases hb' with e | e | e | e
    · exact ktu_ne 4 hlp e
    · exact ktu_ne 3 hlp e
    · exact Nat.ne_of_lt hlp e
    · exact ktu_ne 1 hlp e
  · intro g i a b C oC m₂ h tk Z E' ha hb hC hxa hxb F' N' hZ
    exact turn i a b C oC m₂ h tk Z E' ha hb hC hxa hxb F' N' hZ
  · intro D h tk zs F' N' lt1 hl hG
    exact fin D h tk zs F' N' lt1 hl hG
end
section
variable {prog : Program} {w : World} {A : Around} {h₀ : Heap} {L : Addr} {m : Str → Option Value} {env : Env} {elt : PySem.Expr} {x x₂ : Str} {scope : Scope} {cl : List (Str × Addr)} {s : Shared} {S : List (Addr × Obj) → Prop} {P : Nat → Value → Prop} {Fin : List Value → List (Addr × Obj) → Prop} {news : List (Addr × Obj)}
theorem compPJ {n : Nat} (J : List Value → List (Addr × Obj) → Prop) (h0 : J [] news)
    (turn : ∀ i v ys news', i < n → P i v → ys.length = i → J ys news' → ∃ (t : Addr) (ot : Obj) (v₁ v₂ : Value) (nt : Nat), v = .ref t ∧ (t, ot) ∈ news' ∧ ot.cls = .type "tuple" ∧ ot.data = .seq #[v₁, v₂] nt ∧
      ∀ I oI C oC D m₂ h tk (E' : Value → Shared → Prop), LCg.NsObj oC m₂ → m₂ x = some v₁ → m₂ x₂ = some v₂ → Fr h₀ L h m → News h₀ L h ((I, oI) :: (C, oC) :: (D, LCg.lst ys) :: news') → LCg.Off3 I C D news' → ((@Ne Nat I C) ∧ (@Ne Nat I D) ∧ (@Ne Nat C D)) →
      wpAny (model prog w) A (eval elt (compEnvC scope cl C env)) (LCg.CompEnd h₀ L m { s with heap := h, toks := tk } I oI C oC D (LCg.lst ys) S (fun y news'' => J (ys ++ [y]) news'')) E' { s with heap := h, toks := tk })
    (fin : ∀ ys news', ys.length = n → J ys news' → Fin ys news') : LCp.CompRestP prog w A h₀ L m env elt x x₂ scope cl s S P Fin n 0 [] news := by
  have key : ∀ (j i : Nat) (ys : List Value) (news' : List (Addr × Obj)), i + j = n → ys.length = i → J ys news' → LCp.CompRestP prog w A h₀ L m env elt x x₂ scope cl s S P Fin j i ys news' := by
    intro j
    induction j with
    | zero =>
      intro i ys news' hi hl hy
      exact LCp.CompRestP.zero (fin ys news' (by omega) hy)
    | succ j ih =>
      intro i ys news' hi hl hy
      refine LCp.CompRestP.succ ?_
      intro v hP
      obtain ⟨t, ot, v₁, v₂, nt, e1, e2, e3, e4, k⟩ := turn i v ys news' (by omega) hP hl hy
      refine ⟨t, ot, v₁, v₂, nt, e1, e2, e3, e4, ?_⟩
      intro I oI C oC D m₂ h tk E' hC hx hx₂ F N off ne
      refine wpAny_mono (k I oI C oC D m₂ h tk E' hC hx hx₂ F N off ne) (fun y s₂ hq => ?_) fun _ _ e => e
      obtain ⟨h', tk', nw, e, F', N', off', hS, hJ⟩ := hq
      exact ⟨h', tk', nw, e, F', N', off', hS, ih (i + 1) _ nw (by omega) (by simp [hl]) hJ⟩
  exact key n 0 [] news (by omega) rfl h0
end
end Mine
end
section
open PySem PySem.W PyProof.Rows PyProof.Rows.LSm
namespace Mine
section
local macro_rules | `(tactic| cell_enter) => `(tactic| first | (refine' code_defC ?k1 ?k2 ?k3 ?k4 ?k5 ?kA ?kF ?kK ?k6 ?k7 ?k8 ?k9 ?kB ?kD ?_ ?c2 ?c3 ?c4; (case kA => exact rfl); (case kF => exact rfl); (case kK => assumption); (case k1 => k_asm); (case k2 => k_asm); (case k3 => k_asm); (case k4 => k_asm); (case k5 => k_asm); (case k6 => k_is); (case k7 => k_is); (case k8 => ktr_room); (case k9 => exact BindsTo.of_eq rfl); (case kB => exact rfl); (case kD => decide +kernel); (case c2 => exact rfl); (case c3 => exact rfl); (case c4 => exact rfl); k_whole; intro g' L' h' tk' cells' FG' F' N' Y' B' X' T' l1; (try k_lt l1); k_cells Y'; (try simp only [List.cons_append, List.nil_append] at N'); (try dsimp only); (try k_lift B'); (try k_fold)) | (refine' code_def ?k1 ?k2 ?k3 ?k4 ?k5 ?kA ?kF ?kK ?k6 ?k7 ?k8 ?k9 ?kB ?_ ?c2 ?c3 ?c4 ?c5; (case kA => exact rfl); (case kF => exact rfl); (case kK => assumption); (case k1 => k_asm); (case k2 => k_asm); (case k3 => k_asm); (case k4 => k_asm); (case k5 => k_asm); (case k6 => k_is); (case k7 => k_is); (case k8 => ktr_room); (case k9 => first | exact BindsTo.of_eq rfl | exact binds_K (by k_in) rfl (by k_is) rfl rfl rfl); (case c5 => decide); (case kB => exact locs rfl); (case c2 => exact rfl); (case c3 => exact rfl); (case c4 => exact rfl); k_whole; intro g' L' h' FG' F' N' B' X' T'; (try dsimp only); (try k_lift B'); (try k_fold)))
local macro_rules | `(tactic| ktr_rel) => `(tactic| repeat' (first | (k_unfold; (try dsimp only)) | walk1 | (dsimp only; walk1) | (leave1; try dsimp only) | fail "no step"))
local macro_rules | `(tactic| ktr_call $c $d) => `(tactic| (refine hold ?_; refine' $c _ _ _ _ _ _ _ _ _ _ _ _ _ _ _ _ _ ?k1 ?k2 ?k3 ?k4 ?k5 ?kK ?kp ?kd ?ku ?kR; (case k1 => k_asm); (case k2 => k_asm); (case k3 => k_asm); (case k4 => first | k_asm | (refine' news_cons ?kN ?km; (case kN => k_asm); (case km => k_mem)) | (refine' news_cons2 ?kN ?km ?kl; (case kN => k_asm); (case km => k_mem); (case kl => k_mem))); (case k5 => k_asm); (case kK => exact rfl); (case kp => exact $d); (case kd => ktr_room); (case ku => ktr_units)))
local macro_rules | `(tactic| walk_at "call ref") => `(tactic| refine unhold ?_)
local macro_rules | `(tactic| walk_at "pyIter ref") => `(tactic| refine unhold ?_)
local macro_rules | `(tactic| walk_at "CompEnd") => `(tactic| refine unhold ?_)
local macro_rules | `(tactic| walk_at "exec For Name Call cons nil") => `(tactic| (k_here; (rename Fr _ _ _ _ => lF'); k_dflt (refine forV lF' (by rfl) (by rfl) (by passes_own) (by intro _; rfl) ?_)))
local macro_rules | `(tactic| walk_at "exec For Name Name cons nil") => `(tactic| (k_here; (rename Fr _ _ _ _ => lF'); k_dflt (refine forV lF' (by rfl) (by rfl) (by passes_own) (by intro _; rfl) ?_)))
local macro_rules | `(tactic| walk_at "exec For Name Subscript cons nil") => `(tactic| (k_here; (rename Fr _ _ _ _ => lF'); k_dflt (refine forV lF' (by rfl) (by rfl) (by passes_own) (by intro _; rfl) ?_)))
local macro_rules | `(tactic| walk_at "call builtin:len") => `(tactic| (k_here; k_dflt (refine' len_N ?k1 ?k2 ?_; (case k1 => is_list); (case k2 => omega))))
local macro_rules | `(tactic| walk_at "call type:range") => `(tactic| ((rename Fr _ _ _ _ => F'); (rename News _ _ _ _ => N'); (with_unfolding_all refine range1_rows F' N' ?_; intro _ _ _ _ _ _ _ _ _)))
local macro_rules | `(tactic| walk_at "CompSrc") => `(tactic| (k_here; k_dflt (refine' LCg.CompSrc.range ?k1 ?k2 ?k3 ?k4 ?k5 ?k6 ?k7 ?_; (case k1 => rfl); (case k2 => k_asm); (case k3 => k_asm); (case k4 => assumption); (case k5 => first | exact small_one (by omega) (by omega) (by omega) (by omega) | decide); (case k6 => first | exact rangeSize_nat _ _ | rfl); (case k7 => (rw [PySem.sizeLine_eq]; omega))); intro g'; refine unhold ?_))
local macro_rules | `(tactic| walk_at "subscriptTail Name Slice ref ref") => `(tactic| (k_here; k_dflt (first
  | (refine' slV_up ?F ?N ?m ?p ?h0 ?z ?_ ?s ?t; (case F => k_asm); (case N => k_asm); (case m => k_mem); (case p => kmk_part); (case h0 => first | omega | decide); (case z => first | omega | exact Nat.le_of_ble_eq_true rfl); (case s => with_unfolding_all rfl); (case t => kmk_pure))
  | (refine' slV_from ?F ?N ?m ?p ?h0 ?z ?_ ?s ?t; (case F => k_asm); (case N => k_asm); (case m => k_mem); (case p => kmk_part); (case h0 => first | omega | decide); (case z => first | omega | exact Nat.le_of_ble_eq_true rfl); (case s => with_unfolding_all rfl); (case t => kmk_pure))); intro D' h' F' N' l1; (try k_lt l1); (try k_sweep)))
local macro_rules | `(tactic| walk_at "subscriptTail Name Name ref int") => `(tactic| (k_here; k_dflt (refine' item_N ?l ?b ?x ?_ ?s ?g; (case x => assumption); (case l => (rename News _ _ _ _ => hNN; exact isListN hNN (by k_mem))); (case b => omega); (case s => with_unfolding_all rfl); (case g => (intro _; with_unfolding_all rfl)))))
local macro_rules | `(tactic| walk_at "subscriptTail Name Constant ref int") => `(tactic| (k_here; k_dflt (refine' item_C ?l ?a ?b ?x ?_ ?s ?g; (case x => assumption); (case l => (rename News _ _ _ _ => hNN; exact isListN hNN (by k_mem))); (case a => decide); (case b => decide); (case s => with_unfolding_all rfl); (case g => (intro _; with_unfolding_all rfl)))))
local macro_rules | `(tactic| k_updF) => `(tactic| first | (refine' UpdF.head ?a; (case a => first | exact allNe1 (by assumption) | exact allLt_ne1 (by assumption) | exact allLt_ne (by assumption))) | (refine' UpdF.tail ?a ?b; (case a => first | assumption | k_ne); (case b => k_updF)))
local macro_rules | `(tactic| walk_at "pyIter str") => `(tactic| refine unhold ?_)
local macro_rules | `(tactic| walk_at "CompSrc Name") => `(tactic| refine unhold ?_)
local macro_rules | `(tactic| walk_at "eval ListComp") => `(tactic| (k_here; refine unhold ?_))
local macro_rules | `(tactic| walk_at "exec Assign cons ListComp") => `(tactic| (k_here; refine unhold ?_))
local macro_rules | `(tactic| walk_at "Src2") => `(tactic| refine unhold ?_)
local macro_rules | `(tactic| walk_at "compareOp NotEq ref ref") => `(tactic| refine unhold ?_)
local macro_rules | `(tactic| walk_at "compareOp NotEq ref") => `(tactic| refine unhold ?_)
local macro_rules | `(tactic| walk_at "call type:zip") => `(tactic| (k_here; refine unhold ?_))
local macro_rules | `(tactic| walk_at "compareOp Eq ref ref") => `(tactic| refine unhold ?_)
local macro_rules | `(tactic| walk_at "call builtin:str.startswith") => `(tactic| refine unhold ?_)
local macro_rules | `(tactic| walk_at "subscriptTail Subscript Slice ref ref") => `(tactic| (k_here; k_dflt (refine' slV_up ?F ?N ?m ?p ?h0 ?z ?_ ?s ?t; (case F => k_asm); (case N => k_asm); (case m => k_mem); (case p => kmk_part); (case h0 => first | omega | decide); (case z => first | omega | exact Nat.le_of_ble_eq_true rfl); (case s => with_unfolding_all rfl); (case t => kmk_pure)); intro D' h' F' N' l1; (try k_lt l1); (try k_sweep)))
local macro_rules | `(tactic| walk_at "subscriptTail Name Name ref int") => `(tactic| (k_here; k_dflt (refine' item_N ?l ?b ?x ?_ ?s ?g; (case l => (rename News _ _ _ _ => hNN; exact isListN hNN (by k_mem))); (case x => assumption); (case b => omega); (case s => with_unfolding_all rfl); (case g => (intro _; with_unfolding_all rfl)))))
local macro_rules | `(tactic| walk_at "SrcLP") => `(tactic| refine unhold ?_)
theorem pick5N {h₀ h : Heap} {L : Addr} {a b c d e : Addr} {oa ob oc od oe : Obj} {r : List (Addr × Obj)} (_N : News h₀ L h ((a, oa) :: (b, ob) :: (c, oc) :: (d, od) :: (e, oe) :: r)) : ∃ x y : Addr, ∃ oz, x = a ∧ y = c ∧ oz = oe := ⟨_, _, _, rfl, rfl, rfl⟩
def OnceJ (ps : List (Str × Bool)) (f : Str × Bool → Str) (zs : List Value) : Prop := ∀ (i : Nat) z, zs[i]? = some z → ∃ p t, ps[i]? = some p ∧ z = Value.str (f p) t
theorem onceJ_nil (ps : List (Str × Bool)) (f : Str × Bool → Str) : OnceJ ps f [] := fun i z h => by simp at h
theorem onceJ_snoc {ps : List (Str × Bool)} {f : Str × Bool → Str} {zs : List Value} {i : Nat} {p : Str × Bool} {t : Tok} (h : OnceJ ps f zs) (hl : zs.length = i) (hp : ps[i]? = some p) : OnceJ ps f (zs ++ [.str (f p) t]) := by
  intro j z hj
  rcases Nat.lt_or_ge j zs.length with hlt | hge
  · rw [List.getElem?_append_left hlt] at hj
    exact h j z hj
  · rw [List.getElem?_append_right hge] at hj
    have h0 : j - zs.length = 0 := by
      rcases Nat.eq_zero_or_pos (j - zs.length) with h0 | hp
      · exact h0
      · rw [List.getElem?_eq_none (show ([Value.str (f p) t] : List Value).length ≤ _ from hp)] at hj; cases hj
    rw [h0] at hj
    have e1 : Value.str (f p) t = z := by simpa using hj
    have e2 : j = i := by omega
    subst e2
    exact ⟨p, t, hp, e1.symm⟩
theorem onceJ_strs {ps : List (Str × Bool)} {f : Str × Bool → Str} {zs : List Value} (h : OnceJ ps f zs) (hl : zs.length = ps.length) : StrsAre zs (ps.map f) :=
  strs_ofL (by rw [List.length_map]; exact hl) fun i y hy => by
    obtain ⟨p, t, hp, e⟩ := h i y hy
    exact ⟨f p, t, by rw [List.getElem?_map, hp]; rfl, e⟩
local macro_rules | `(tactic| walk_at "call builtin:sorted") => `(tactic| (k_here; refine unhold ?_))
theorem ordered_c {w mean mg mb} (l : Addr) (ts : List Value) (tx : List Str) (n : Nat) (hs : StrsAre ts tx) : Claim 20 w mean mg mb 44 [(l, W.listOf ts.toArray n), (41, tabObj #[])] (Txs 12 tx) [.ref l] (fun base h₀ L m s Q =>
     CodeHd base 43 41 ∧ ∀ h' tk' ps, Fr h₀ L h' m → News h₀ L h' [(41, tabObj ps)] → Q (.bool true) {s with heap := h', toks := tk'}) := by
  dsimp only [Claim, PG, KF, VW, LS]; k_fill; intros; rename_i hret
  obtain ⟨codeHd, hret⟩ := hret
  rename (Txs 12 tx) => hT
  refine wpAny_call ?_
  k_dflt cell_enter
  ktr_rel
  refine hold ?_
  have htl := strs_len hs
  refine Assign_comp2 (by k_asm) (by rfl) (by with_unfolding_all rfl) (by with_unfolding_all rfl) (by decide) (by rfl) (by decide) (by rfl) (by rfl) (by decide) (by decide) (by decide) (by rfl) (by rfl) (by rfl) ?_
  ktr_rel
  refine hold ?_
  rename Fr _ _ _ _ => F1
  rename News _ _ _ _ => N1
  refine Src2.intro F1 N1 (List.Mem.head _) (by have := hT.2.1; omega) ?_
  clear F1 N1
  intro D h tk ys pool F1 N1 off1 lt1 gt1 P1
  have hD41 : @LT.lt Nat instLTNat 41 D := lt1 _ (List.Mem.tail _ (List.Mem.head _))
  have N2 : News _ _ _ ((41, tabObj #[]) :: (D, LCg.lst ys) :: pool) := news_sub N1 (by
    intro p hp
    rcases List.mem_cons.mp hp with e | hp
    · rw [e]; exact List.Mem.tail _ (List.mem_append_right _ (List.Mem.tail _ (List.Mem.head _)))
    rcases List.mem_cons.mp hp with e | hp
    · rw [e]; exact List.Mem.head _
    · exact List.Mem.tail _ (List.mem_append_left _ hp))
  clear N1 off1 lt1
  ktr_rel
  k_here
  kn_here
  k_dflt (refine' kla_eval ?d0 ?_; (case d0 => exact rfl))
  k_dflt (refine' kla_nest ?F ?N ?T ?C ?cd ?U ?t ?n ?cl ?_; (case F => k_asm); (case N => k_asm); (case T => k_asm); (case cd => exact rfl); (case C => kn_code); (case U => exact UpdF.head (by
    intro p hp
    rcases List.mem_cons.mp hp with e | hp
    · rw [e]; exact neA (Or.inr hD41)
    · exact neA (Or.inr (Nat.lt_trans hD41 (gt1 p hp))))); (case t => kn_triples); (case n => kn_among); (case cl => exact rfl))
  intro f c' oc vs t ctv h3 tk3 F3 N3 hd3 hv3 l3 l4
  (try dsimp only at N3)
  have PT := prsT_of hs P1
  have hyl : ys.length = 2 * tx.length := by rw [PT.1, prsOf_len]
  ktr_rel
  refine hold ?_
  rename Fr _ _ _ _ => F4
  rename News _ _ _ _ => N4
  refine sortK (X := _) (zs := (prsOf tx).map plc) (by ktr_units) F4 N4 (isListN N4 (List.Mem.tail _ (List.Mem.tail _ (List.Mem.tail _ (List.Mem.head _))))) (by have := hT.1; omega) (by have := hT.2.1; omega) (by rw [List.length_map, PT.1]) ?_ ?_
  · clear F4 N4
    intro i v z hv hz Z h5 tk5 C5 F5 N5 hX hC
    obtain ⟨p, hp, rfl⟩ : ∃ p, (prsOf tx)[i]? = some p ∧ z = plc p := by
      rw [List.getElem?_map] at hz
      cases e : (prsOf tx)[i]? with
      | none => rw [e] at hz; cases hz
      | some p => rw [e] at hz; exact ⟨p, rfl, (Option.some.inj hz).symm⟩
    obtain ⟨T, t6, n6, rfl, hTm⟩ := PT.2 i v p hv hp
    have hpl : p.1.length ≤ 900 := by
      have := (hT.2.2 _ (prsOf_mem (List.mem_of_getElem? hp))).1
      omega
    obtain ⟨px, pq⟩ := p
    replace N5 := news_cons N5 (hX _ (List.Mem.tail _ (List.Mem.tail _ (List.Mem.tail _ (List.Mem.tail _ hTm)))))
    replace N5 := news_cons N5 (List.Mem.tail _ (hX _ (List.Mem.tail _ (List.Mem.head _))))
    replace N5 := news_cons N5 (List.Mem.tail _ (List.Mem.tail _ (hX _ (List.Mem.head _))))
    try dsimp only at N5
    refine wpAny_call ?_
    k_dflt (refine' kla_code ?k1 ?k2 ?k3 ?k4 ?k5 ?kA ?kF ?kK ?k6 ?k7 ?k8 ?k9 ?kB ?_ ?c2 ?c3 ?c4 ?c5; (case kA => exact rfl); (case kF => exact rfl); (case kK => exact rfl); (case k1 => k_asm); (case k2 => k_asm); (case k3 => k_asm); (case k4 => k_asm); (case k5 => k_asm); (case k6 => k_mem); (case k7 => exact codeRec_news (by k_asm) (by k_mem) (by assumption) (by assumption)); (case k8 => ktr_room); (case k9 => exact rfl); (case c5 => decide); (case kB => exact locs rfl); (case c2 => exact rfl); (case c3 => exact rfl); (case c4 => exact rfl))
    k_whole
    intro g' L' h' FG' F' N' B' X' T'
    (try dsimp only)
    (try k_lift B')
    (try k_fold)
    ktr_rel
    ktr_call (places_c (mean := mean) (mg := mg) (mb := mb) (news := _) px t6 pq) hpl
    intro ky h9 tk9 kvs n9 i9 o9 F9 N9
    try dsimp only
    ktr_rel
    rename Fr _ _ _ _ => F8
    rename News _ _ _ _ => N8
    refine hC ky kvs n9 _ _ i9 (fun p hp => ?_) F8 (news_sub N8 ?_)
    · exact o9 p (List.Mem.tail _ (List.Mem.tail _ (List.Mem.tail _ hp)))
    · intro p hp
      rcases List.mem_cons.mp hp with e | hp
      · rw [e]; exact List.Mem.head _
      · repeat (first | exact hp | apply List.Mem.tail)
  · clear F4 N4
    intro D2 e2 pm h2 tk2 hpm hasc F2 N2 l2
    have PT2 := prsT_perm PT hpm
    have hmem := perm_mem (ps := prsOf tx) hpm PT.1.symm
    have hsrt := srt_perm (ps := prsOf tx) hpm PT.1.symm hasc
    have hlen2 : (pm.toList.map fun i => (prsOf tx).getD i (Str.empty, false)).length = 2 * tx.length := by
      rw [List.length_map, Array.length_toList, hpm.size, hyl]
    generalize (pm.toList.map fun i => (prsOf tx).getD i (Str.empty, false)) = ps at *
    generalize (pm.toList.map fun i => ys.getD i Value.none) = ys2 at *
    have hok : ∀ p ∈ ps, p.1.length ≤ 49 ∧ OkS p.1 := fun p hp => by
      have := hT.2.2 _ (prsOf_mem (hmem p hp))
      exact ⟨by omega, this.2⟩
    have hD2 : @LT.lt Nat instLTNat 41 D2 := l2 _ (List.Mem.tail _ (List.Mem.tail _ (List.Mem.head _)))
    replace N2 := news_sub (X := (D2, W.listOf (List.toArray ys2) e2) :: (41, _) :: pool) N2 (by
      intro p hp
      rcases List.mem_cons.mp hp with e | hp
      · rw [e]; exact List.Mem.head _
      rcases List.mem_cons.mp hp with e | hp
      · rw [e]; exact List.Mem.tail _ (List.Mem.tail _ (List.Mem.tail _ (List.Mem.head _)))
      · exact List.Mem.tail _ (List.Mem.tail _ (List.Mem.tail _ (List.Mem.tail _ (List.Mem.tail _ hp)))))
    clear l2 hasc hpm
    have hyl2 : ys2.length = ps.length := PT2.1
    have hT1 := hT.1
    have hT2 := hT.2.1
    ktr_rel
    refine hold ?_
    rename Fr _ _ _ _ => F3
    rename News _ _ _ _ => N3
    refine LCp.Assign_ListComp_P (F₀ := F3) (by rfl) (by with_unfolding_all rfl) (by with_unfolding_all rfl) (by decide) (by rfl) (by decide) (by rfl) (by rfl) (by decide) (by rfl) (by rfl) ?_
    ktr_rel
    refine hold ?_
    refine LCp.SrcLP.ledger (by rfl) (by k_asm) (by k_asm) (List.Mem.head _) (by rw [List.size_toArray, sizeLine_eq]; omega) ?_
    intro g9
    refine compPJ (J := fun zs nw => nw = (D2, W.listOf (List.toArray ys2) e2) :: (41, _) :: pool ∧ OnceJ ps escP zs) ⟨rfl, onceJ_nil _ _⟩ ?_ ?_
    · rintro i v zs _ hi hv hzl ⟨rfl, hJ⟩
      have hv : ys2[i]? = some v := by simpa using hv
      obtain ⟨p, hp⟩ : ∃ p, ps[i]? = some p := ⟨ps[i]'(by rw [List.size_toArray] at hi; omega), by simp⟩
      obtain ⟨T, t6, n6, rfl, hTm⟩ := PT2.2 i v p hv hp
      have hpk := hok p (List.mem_of_getElem? hp)
      obtain ⟨px, pq⟩ := p
      replace hpk : px.length ≤ 49 ∧ OkS px := hpk
      refine ⟨T, _, _, _, _, rfl, List.Mem.tail _ (List.Mem.tail _ hTm), rfl, rfl, ?_⟩
      intro I oI C oC D m₂ h tk E' hC hx hx2 F N off ne
      simp only [LCg.Off3] at off
      ktr_rel
      ktr_call (escape_c (mean := mean) (mg := mg) (mb := mb) (news := _) px t6 pq) (by omega)
      intro t9 h9 tk9 F9 N9
      try dsimp only
      ktr_rel
      refine hold ?_
      refine LCg.CompEnd.intro F9 N9 _ (fun p hp => hp) (by first | assumption | (simp only [LCg.Off3, and_true]; done) | (simp only [LCg.Off3, and_true]; assumption)) (.inr ⟨_, List.Mem.head _, rfl, _, rfl⟩) ⟨rfl, onceJ_snoc (f := escP) hJ hzl hp⟩
    · rintro zs _ hzl ⟨rfl, hJ⟩
      have hzl : zs.length = ps.length := by rw [hzl, List.size_toArray]; exact hyl2
      have hS1 := onceJ_strs hJ hzl
      ktr_rel
      refine hold ?_
      rename Fr _ _ _ _ => F3
      rename News _ _ _ _ => N3
      refine LCp.ListComp_P (F₀ := F3) (by with_unfolding_all rfl) (by decide) (by rfl) (by decide) (by rfl) (by rfl) (by decide) ?_
      ktr_rel
      refine hold ?_
      refine LCp.SrcLP.ledger (by rfl) (by k_asm) (by k_asm) (List.Mem.tail _ (List.Mem.head _)) (by rw [List.size_toArray, sizeLine_eq]; omega) ?_
      intro g9
      refine compPJ (J := fun zs' nw => nw = _ ∧ OnceJ ps escP zs') ⟨rfl, onceJ_nil _ _⟩ ?_ ?_
      · rintro i v zs' _ hi hv hzl' ⟨rfl, hJ'⟩
        have hv : ys2[i]? = some v := by simpa using hv
        obtain ⟨p, hp⟩ : ∃ p, ps[i]? = some p := ⟨ps[i]'(by rw [List.size_toArray] at hi; omega), by simp⟩
        obtain ⟨T, t6, n6, rfl, hTm⟩ := PT2.2 i v p hv hp
        have hpk := hok p (List.mem_of_getElem? hp)
        obtain ⟨px, pq⟩ := p
        replace hpk : px.length ≤ 49 ∧ OkS px := hpk
        refine ⟨T, _, _, _, _, rfl, List.Mem.tail _ (List.Mem.tail _ (List.Mem.tail _ hTm)), rfl, rfl, ?_⟩
        intro I oI C oC D m₂ h tk E' hC hx hx2 F N off ne
        simp only [LCg.Off3] at off
        ktr_rel
        ktr_call (written_c (mean := mean) (mg := mg) (mb := mb) (news := _) px t6 pq) (by omega)
        intro t9 h9 tk9 F9 N9
        try dsimp only
        ktr_rel
        refine hold ?_
        refine LCg.CompEnd.intro F9 N9 _ (fun p hp => hp) (by first | assumption | (simp only [LCg.Off3, and_true]; done) | (simp only [LCg.Off3, and_true]; assumption)) (.inr ⟨_, List.Mem.tail _ (List.Mem.head _), rfl, _, rfl⟩) ⟨rfl, onceJ_snoc (f := escP) hJ' hzl' hp⟩
      · rintro zs' _ hzl' ⟨rfl, hJ'⟩
        have hzl' : zs'.length = ps.length := by rw [hzl', List.size_toArray]; exact hyl2
        have hS2 := onceJ_strs hJ' hzl'
        have hokE : ∀ x ∈ ps.map escP, OkS x := fun x hx => by
          obtain ⟨p, hp, rfl⟩ := List.mem_map.mp hx
          exact okS_esc _ _ (hok p hp).2
        ktr_rel
        refine hold ?_
        rename News _ _ _ _ => N4
        refine ne_strs_same (isListN N4 (List.Mem.tail _ (List.Mem.head _))) (isListN N4 (List.Mem.head _)) hS1 hS2 hokE (by ktr_units) ?_
        ktr_rel
        refine hold ?_
        rename Fr _ _ _ _ => F5
        rename News _ _ _ _ => N5
        replace N5 := news_sub (X := _ :: _ :: _ :: pool) N5 (fun p hp => List.Mem.tail _ hp)
        refine sorted_N_str F5 N5 (isListN N5 (List.Mem.head _)) hS1 (by omega) ?_
        clear F5 N5 hS2 hJ'
        intro h6 vs6 ss6 e6 F6 N6 hS6 hp6 hs6
        have hss := sorted_same hp6 hs6 (pw_esc hsrt)
        subst hss
        try dsimp only
        ktr_rel
        refine hold ?_
        rename News _ _ _ _ => N7
        refine ne_strs_same (isListN N7 (List.Mem.head _)) (isListN N7 (List.Mem.tail _ (List.Mem.head _))) hS6 hS1 hokE (by ktr_units) ?_
        replace N7 := news_sub (X := _ :: _ :: _ :: pool) N7 (fun p hp => List.Mem.tail _ hp)
        clear hS6 hp6 hs6
        ktr_rel
        refine hold ?_
        refine Assign_Z (by k_asm) (by rfl) (by with_unfolding_all rfl) (by with_unfolding_all rfl) (by decide) (by rfl) (by decide) (by rfl) (by rfl) (by decide) (by rfl) (by rfl) (by rfl) ?_
        ktr_rel
        refine hold ?_
        rename Fr _ _ _ _ => F5
        rename News _ _ _ _ => N5
        refine zip_src (fun i v => ∃ p t, ps[i]? = some p ∧ v = Value.str (agP p) t) F5 N5 (List.Mem.tail _ (List.Mem.head _)) (List.Mem.head _) (by omega) (by omega) ?_ ?_
        · clear F5 N5
          intro i a b C oC m₂ h tk Z E' ha hb hC hxa hxb F5 N5 hZ
          obtain ⟨p, hp⟩ : ∃ p, ps[i]? = some p := by
            obtain ⟨p, t, hp, _⟩ := hJ i b hb
            exact ⟨p, hp⟩
          obtain ⟨T, t6, n6, rfl, hTm⟩ := PT2.2 i a p ha hp
          obtain ⟨p', t7, hp', rfl⟩ := hJ i b hb
          rw [hp] at hp'
          cases hp'
          have hpk := hok p (List.mem_of_getElem? hp)
          obtain ⟨px, pq⟩ := p
          replace hpk : px.length ≤ 49 ∧ OkS px := hpk
          have hle : (escP (px, pq)).length ≤ 900 := by
            have : (escP (px, pq)).length ≤ 6 * px.length := escS_len px pq
            omega
          have hag : agP (px, pq) = escS (escP (px, pq)) pq := rfl
          generalize escP (px, pq) = ep at *
          replace N5 := news_cons N5 (List.Mem.tail _ (hZ _ (List.Mem.tail _ (List.Mem.tail _ (List.Mem.tail _ hTm)))))
          try dsimp only at N5
          ktr_rel
          ktr_call (escape_c (mean := mean) (mg := mg) (mb := mb) (news := _) ep t7 pq) hle
          intro t9 h9 tk9 F9 N9
          try dsimp only
          ktr_rel
          exact ⟨_, _, rfl, F9, news_sub N9 (fun p hp => List.Mem.tail _ hp), _, t9, hp, by rw [hag]⟩
        · clear F5 N5
          intro D3 h7 tk7 zs2 F5 N5 l5 hzl2 hJ2
          replace hzl2 : zs2.length = ps.length := by omega
          have hS3 := onceJ_strs (f := agP) hJ2 hzl2
          have hokA : ∀ x ∈ ps.map agP, OkS x := fun x hx => by
            obtain ⟨p, hp, rfl⟩ := List.mem_map.mp hx
            exact okS_esc _ _ (okS_esc _ _ (hok p hp).2)
          clear l5
          ktr_rel
          refine hold ?_
          rename Fr _ _ _ _ => F5
          rename News _ _ _ _ => N5
          refine sorted_N_str F5 N5 (isListN N5 (List.Mem.head _)) hS3 (by omega) ?_
          clear F5 N5
          intro h6 vs6 ss6 e6 F6 N6 hS6 hp6 hs6
          have hss := sorted_same hp6 hs6 (pw_ag hsrt)
          subst hss
          try dsimp only
          ktr_rel
          refine hold ?_
          rename News _ _ _ _ => N7
          refine ne_strs_same (isListN N7 (List.Mem.head _)) (isListN N7 (List.Mem.tail _ (List.Mem.head _))) hS6 hS3 hokA (by ktr_units) ?_
          replace N7 := news_sub (X := _ :: _ :: _ :: _ :: pool) N7 (fun p hp => List.Mem.tail _ hp)
          clear hS6 hp6 hs6
          ktr_rel
          refine hold ?_
          rename Fr _ _ _ _ => F3
          rename News _ _ _ _ => N3
          refine LCp.Assign_ListComp_P (F₀ := F3) (by rfl) (by with_unfolding_all rfl) (by with_unfolding_all rfl) (by decide) (by rfl) (by decide) (by rfl) (by rfl) (by decide) (by rfl) (by rfl) ?_
          ktr_rel
          refine hold ?_
          refine LCp.SrcLP.ledger (by rfl) (by k_asm) (by k_asm) (List.Mem.tail _ (List.Mem.tail _ (List.Mem.head _))) (by rw [List.size_toArray, sizeLine_eq]; omega) ?_
          intro g9
          refine compPJ (J := fun zs' nw => ∃ pool2, nw = pool2 ++ ((D3, LCg.lst zs2) :: (_, LCg.lst zs) :: (D2, W.listOf (List.toArray ys2) e2) :: (41, _) :: pool) ∧ Lsts pool2 zs' ((ps.map plc).take zs'.length)) ⟨[], rfl, .nil⟩ ?_ ?_
          · rintro i v zs' _ hi hv hzl' ⟨pool2, rfl, hJ'⟩
            have hv : ys2[i]? = some v := by simpa using hv
            obtain ⟨p, hp⟩ : ∃ p, ps[i]? = some p := ⟨ps[i]'(by rw [List.size_toArray] at hi; omega), by simp⟩
            obtain ⟨T, t6, n6, rfl, hTm⟩ := PT2.2 i v p hv hp
            have hpk := hok p (List.mem_of_getElem? hp)
            obtain ⟨px, pq⟩ := p
            replace hpk : px.length ≤ 49 ∧ OkS px := hpk
            refine ⟨T, _, _, _, _, rfl, List.mem_append_right _ (List.Mem.tail _ (List.Mem.tail _ (List.Mem.tail _ (List.Mem.tail _ hTm)))), rfl, rfl, ?_⟩
            intro I oI C oC D m₂ h tk E' hC hx hx2 F N off ne
            ktr_rel
            ktr_call (places_c (mean := mean) (mg := mg) (mb := mb) (news := _) px t6 pq) (by omega)
            intro ky h9 tk9 kvs n9 i9 o9 F9 N9
            try dsimp only
            ktr_rel
            refine hold ?_
            refine LCg.CompEnd.intro F9 N9 ((ky, W.listOf (List.toArray kvs) n9) :: (pool2 ++ _)) (fun p hp => ?_) ⟨⟨fun e => ?_, fun e => ?_, fun e => ?_⟩, off⟩ (.inr ⟨_, List.Mem.tail _ (List.mem_append_right _ (List.Mem.tail _ (List.Mem.tail _ (List.Mem.head _)))), rfl, _, rfl⟩) ⟨(ky, W.listOf (List.toArray kvs) n9) :: pool2, rfl, ?_⟩
            · rcases List.mem_cons.mp hp with e | hp
              · rw [e]; exact List.Mem.tail _ (List.Mem.head _)
              rcases List.mem_cons.mp hp with e | hp
              · rw [e]; exact List.Mem.tail _ (List.Mem.tail _ (List.Mem.head _))
              rcases List.mem_cons.mp hp with e | hp
              · rw [e]; exact List.Mem.tail _ (List.Mem.tail _ (List.Mem.tail _ (List.Mem.head _)))
              rcases List.mem_cons.mp hp with e | hp
              · rw [e]; exact List.Mem.head _
              · exact List.Mem.tail _ (List.Mem.tail _ (List.Mem.tail _ (List.Mem.tail _ hp)))
            · exact o9 _ (List.Mem.head _) e.symm
            · exact o9 _ (List.Mem.tail _ (List.Mem.head _)) e.symm
            · exact o9 _ (List.Mem.tail _ (List.Mem.tail _ (List.Mem.head _))) e.symm
            · rw [List.length_append, List.length_singleton, List.take_add_one, hzl', List.getElem?_map, hp]
              rw [hzl'] at hJ'
              exact (hJ'.mono fun p hp => List.Mem.tail _ hp).snoc (List.Mem.head _) i9
          · rintro zs' _ hzl' ⟨pool2, rfl, hJ'⟩
            replace hzl' : zs'.length = ps.length := by rw [hzl', List.size_toArray]; exact hyl2
            have hL := hJ'
            rw [hzl', List.take_of_length_le (by rw [List.length_map]; exact Nat.le_refl _)] at hL
            ktr_rel
            rename News _ _ _ _ => N4
            replace N4 := news_sub (X := (_, LCg.lst zs') :: (D3, LCg.lst zs2) :: (_, LCg.lst zs) :: (D2, W.listOf (List.toArray ys2) e2) :: (41, _) :: (pool2 ++ pool)) N4 (by
              intro p hp
              rcases List.mem_cons.mp hp with e | hp
              · rw [e]; exact List.Mem.head _
              rcases List.mem_cons.mp hp with e | hp
              · rw [e]; exact List.Mem.tail _ (List.mem_append_right _ (List.Mem.head _))
              rcases List.mem_cons.mp hp with e | hp
              · rw [e]; exact List.Mem.tail _ (List.mem_append_right _ (List.Mem.tail _ (List.Mem.head _)))
              rcases List.mem_cons.mp hp with e | hp
              · rw [e]; exact List.Mem.tail _ (List.mem_append_right _ (List.Mem.tail _ (List.Mem.tail _ (List.Mem.head _))))
              rcases List.mem_cons.mp hp with e | hp
              · rw [e]; exact List.Mem.tail _ (List.mem_append_right _ (List.Mem.tail _ (List.Mem.tail _ (List.Mem.tail _ (List.Mem.head _)))))
              rcases List.mem_append.mp hp with hp | hp
              · exact List.Mem.tail _ (List.mem_append_left _ hp)
              · exact List.Mem.tail _ (List.mem_append_right _ (List.Mem.tail _ (List.Mem.tail _ (List.Mem.tail _ (List.Mem.tail _ hp))))))
            ktr_rel
            refine hold ?_
            rename News _ _ _ _ => NP
            rename Fr _ _ _ _ => FP
            obtain ⟨DP, DO, o41, q1, q2, q3⟩ := pick5N NP
            rw [← q1, ← q2, ← q3] at NP
            obtain ⟨psx, hpsx⟩ : ∃ psx, o41 = tabObj psx := ⟨_, q3⟩
            subst hpsx
            refine iterRF (n := ps.length) (J := fun i m => m (Str.ofString "places") = some (.ref DP) ∧ m (Str.ofString "once") = some (.ref DO) ∧ m (Str.ofString "again") = some (.ref D3) ∧ m (Str.ofString "pairs") = some (.ref D2)) rfl (by assumption) (by omega) (by omega) FP NP ⟨by rw [q1]; rfl, by rw [q2]; rfl, rfl, rfl⟩ ?_ ?_
            · clear FP NP
              rintro i ti m₁ h tk own hi ⟨h1, h2, h3, h4⟩ FP NP
              replace FP := frN FP (a := Str.ofString "places") (v := .ref DP) (by rw [if_neg (by decide)]; exact h1)
              replace FP := frN FP (a := Str.ofString "once") (v := .ref DO) (by rw [if_neg (by decide), if_neg (by decide)]; exact h2)
              replace FP := frN FP (a := Str.ofString "again") (v := .ref D3) (by rw [if_neg (by decide), if_neg (by decide), if_neg (by decide)]; exact h3)
              replace FP := frN FP (a := Str.ofString "pairs") (v := .ref D2) (by rw [if_neg (by decide), if_neg (by decide), if_neg (by decide), if_neg (by decide)]; exact h4)
              obtain ⟨pl, hpl⟩ : ∃ p, ps[i]? = some p := ⟨ps[i], by simp⟩
              ktr_rel
              refine hold ?_
              rename News _ _ _ _ => NP
              rename Fr _ _ _ _ => FP
              refine iterRF (n := ps.length) (J := fun j m => m (Str.ofString "places") = some (.ref DP) ∧ m (Str.ofString "once") = some (.ref DO) ∧ m (Str.ofString "again") = some (.ref D3) ∧ m (Str.ofString "pairs") = some (.ref D2) ∧ ∃ t, m (Str.ofString "low") = some (.int ((i : Nat) : Int) t)) rfl (by assumption) (by omega) (by omega) FP NP ⟨rfl, rfl, rfl, rfl, _, rfl⟩ ?_ ?_
              · clear FP NP
                rintro j tj m₁ h tk own2 hj ⟨h1, h2, h3, h4, th, h5⟩ FP NP
                replace FP := frN FP (a := Str.ofString "places") (v := .ref DP) (by rw [if_neg (by decide)]; exact h1)
                replace FP := frN FP (a := Str.ofString "once") (v := .ref DO) (by rw [if_neg (by decide), if_neg (by decide)]; exact h2)
                replace FP := frN FP (a := Str.ofString "again") (v := .ref D3) (by rw [if_neg (by decide), if_neg (by decide), if_neg (by decide)]; exact h3)
                replace FP := frN FP (a := Str.ofString "pairs") (v := .ref D2) (by rw [if_neg (by decide), if_neg (by decide), if_neg (by decide), if_neg (by decide)]; exact h4)
                replace FP := frN FP (a := Str.ofString "low") (v := .int ((i : Nat) : Int) th) (by rw [if_neg (by decide), if_neg (by decide), if_neg (by decide), if_neg (by decide), if_neg (by decide)]; exact h5)
                rw [List.append_assoc] at NP
                obtain ⟨ph, hph⟩ : ∃ p, ps[j]? = some p := ⟨ps[j], by simp⟩
                have g1 : zs'[i]? = some (zs'[i]'(by omega)) := by simp
                have g2 : zs'[j]? = some (zs'[j]'(by omega)) := by simp
                obtain ⟨Tl, vl, nl, zl, ql, ml, il, gl⟩ := hL.get g1
                obtain ⟨Th, vh, nh, zh, qh, mh, ih, gh⟩ := hL.get g2
                rw [ql] at g1
                rw [qh] at g2
                rw [List.getElem?_map, hpl] at gl
                rw [List.getElem?_map, hph] at gh
                cases gl
                cases gh
                have o1 : zs[i]? = some (zs[i]'(by omega)) := by simp
                have o2 : zs[j]? = some (zs[j]'(by omega)) := by simp
                obtain ⟨p1, t1, e1, r1⟩ := hJ i _ o1
                obtain ⟨p2, t2, e2', r2⟩ := hJ j _ o2
                rw [hpl] at e1
                rw [hph] at e2'
                cases e1
                cases e2'
                rw [r1] at o1
                rw [r2] at o2
                have b1 : zs2[i]? = some (zs2[i]'(by omega)) := by simp
                have b2 : zs2[j]? = some (zs2[j]'(by omega)) := by simp
                obtain ⟨p3, t3, e3, r3⟩ := hJ2 i _ b1
                obtain ⟨p4, t4, e4, r4⟩ := hJ2 j _ b2
                rw [hpl] at e3
                rw [hph] at e4
                cases e3
                cases e4
                rw [r3] at b1
                rw [r4] at b2
                clear r1 r2 r3 r4
                have kl := (hok _ (List.mem_of_getElem? hpl)).1
                have kh := (hok _ (List.mem_of_getElem? hph)).1
                have cl9 : (plc pl).length = pl.1.length := by show (pl.1.cps.toList.map _).length = _; rw [List.length_map]; rfl
                have ch9 : (plc ph).length = ph.1.length := by show (ph.1.cps.toList.map _).length = _; rw [List.length_map]; rfl
                have vl9 := il.length
                have vh9 := ih.length
                have ho1 := once_opens pl ph
                have ho2 := again_opens pl ph
                have hok1 := (hok _ (List.mem_of_getElem? hpl)).1
                have mh9 := List.mem_append_left (own ++ own2) (List.Mem.tail (DP, LCg.lst zs') (List.Mem.tail (D3, LCg.lst zs2) (List.Mem.tail (DO, LCg.lst zs) (List.Mem.tail (D2, W.listOf (List.toArray ys2) e2) (List.Mem.tail (41, tabObj psx) (List.mem_append_left pool mh))))))
                have ml9 := List.mem_append_left (own ++ own2) (List.Mem.tail (DP, LCg.lst zs') (List.Mem.tail (D3, LCg.lst zs2) (List.Mem.tail (DO, LCg.lst zs) (List.Mem.tail (D2, W.listOf (List.toArray ys2) e2) (List.Mem.tail (41, tabObj psx) (List.mem_append_left pool ml))))))
                have m1 : (DP, LCg.lst zs') ∈ ((DP, LCg.lst zs') :: (D3, LCg.lst zs2) :: (DO, LCg.lst zs) :: (D2, W.listOf (List.toArray ys2) e2) :: (41, tabObj psx) :: (pool2 ++ pool)) ++ (own ++ own2) := List.Mem.head _
                have m2 : (D3, LCg.lst zs2) ∈ ((DP, LCg.lst zs') :: (D3, LCg.lst zs2) :: (DO, LCg.lst zs) :: (D2, W.listOf (List.toArray ys2) e2) :: (41, tabObj psx) :: (pool2 ++ pool)) ++ (own ++ own2) := List.Mem.tail _ (List.Mem.head _)
                have m3 : (DO, LCg.lst zs) ∈ ((DP, LCg.lst zs') :: (D3, LCg.lst zs2) :: (DO, LCg.lst zs) :: (D2, W.listOf (List.toArray ys2) e2) :: (41, tabObj psx) :: (pool2 ++ pool)) ++ (own ++ own2) := List.Mem.tail _ (List.Mem.tail _ (List.Mem.head _))
                rw [List.append_assoc]
                replace NP : News _ _ _ (((DP, LCg.lst zs') :: (D3, LCg.lst zs2) :: (DO, LCg.lst zs) :: (D2, W.listOf (List.toArray ys2) e2) :: (41, tabObj psx) :: (pool2 ++ pool)) ++ (own ++ own2)) := NP
                generalize ((DP, LCg.lst zs') :: (D3, LCg.lst zs2) :: (DO, LCg.lst zs) :: (D2, W.listOf (List.toArray ys2) e2) :: (41, tabObj psx) :: (pool2 ++ pool)) ++ (own ++ own2) = RR at *
                replace NP := news_cons NP mh9
                replace NP := news_cons NP (List.Mem.tail _ ml9)
                replace NP := news_cons NP (List.Mem.tail _ (List.Mem.tail _ m3))
                replace NP := news_cons NP (List.Mem.tail _ (List.Mem.tail _ (List.Mem.tail _ m2)))
                replace NP := news_cons NP (List.Mem.tail _ (List.Mem.tail _ (List.Mem.tail _ (List.Mem.tail _ m1))))
                clear m1 m2 m3 mh9 ml9 mh ml PT2 hL hJ hJ2 hJ' hS1 hS3 hokE hokA hok hmem hsrt
                ktr_rel
                refine hold ?_
                rename News _ _ _ _ => N5
                refine eq_intsK (isListN N5 (List.Mem.head _)) (ints_take _ ih) (isListN N5 (List.Mem.tail _ (List.Mem.tail _ (List.Mem.tail _ (List.Mem.tail _ (List.Mem.head _)))))) il (by ktr_units) ?_
                rw [show (((vl.length : Nat) : Int)).toNat = (plc pl).length by omega]
                generalize decide (List.take (plc pl).length (plc ph) = plc pl) = ob at *
                ktr_rel
                refine hold ?_
                refine SC.startswith ?_
                rw [ho1]
                ktr_rel
                · rename ((_ != _) = true) => hne
                  exact absurd hne (by simp)
                · refine hold ?_
                  refine SC.startswith ?_
                  rw [ho2]
                  ktr_rel
                  rename News _ _ _ _ => N9
                  refine tf_next (by assumption) (news_sub N9 ?_) ⟨rfl, rfl, rfl, rfl, _, rfl⟩
                  intro p hp
                  repeat (first | exact hp | apply List.Mem.tail)
              · clear FP NP
                rintro m₁ h tk ⟨h1, h2, h3, h4, th, h5⟩ FP NP
                try dsimp only
                ktr_rel
                exact tf_next FP NP ⟨h1, h2, h3, h4⟩
            · clear FP NP
              rintro m₁ h tk ⟨h1, h2, h3, h4⟩ FP NP
              try dsimp only
              ktr_rel
              rename News _ _ _ _ => N9
              refine hret _ _ psx (by assumption) (news_sub N9 ?_)
              intro p hp
              rw [List.mem_singleton.mp hp]
              exact List.Mem.tail _ (List.Mem.tail _ (List.Mem.tail _ (List.Mem.tail _ (List.Mem.head _))))
end
end Mine
end
section
open PySem PySem.W PyProof.Rows PyProof.Rows.LSm
namespace Mine
section
local macro_rules | `(tactic| ktr_rel) => `(tactic| repeat' (first | (k_unfold; (try dsimp only)) | walk1 | (dsimp only; walk1) | (leave1; try dsimp only) | fail "no step"))
local macro_rules | `(tactic| ktr_call $c $d) => `(tactic| (refine hold ?_; refine' $c _ _ _ _ _ _ _ _ _ _ _ _ _ _ _ _ _ ?k1 ?k2 ?k3 ?k4 ?k5 ?kK ?kp ?kd ?ku ?kR; (case k1 => k_asm); (case k2 => k_asm); (case k3 => k_asm); (case k4 => first | k_asm | (refine' news_cons ?kN ?km; (case kN => k_asm); (case km => k_mem)) | (refine' news_cons2 ?kN ?km ?kl; (case kN => k_asm); (case km => k_mem); (case kl => k_mem))); (case k5 => k_asm); (case kK => exact rfl); (case kp => exact $d); (case kd => ktr_room); (case ku => ktr_units)))
local macro_rules | `(tactic| walk_at "call ref") => `(tactic| refine unhold ?_)
theorem txs_mono {i j : Nat} {tx : List Str} (h : Txs i tx) (hij : i ≤ j) : Txs j tx := by
  obtain ⟨h1, h2, h3⟩ := h
  refine ⟨h1, by omega, fun x hx => ?_⟩
  have := h3 x hx
  exact ⟨by omega, this.2⟩
theorem law_h : PySem.Challenge.rw_mg0011_02.Holds := by
  refine Mine.hd ?_
  k_go0
  all_goals (try k_fold)
  ktr_rel
  rename IntsAre _ (List.map _ _) => hI
  generalize hdr : List.map (fun k' => Int.fmod k' (10 ^ Int.toNat 9)) (List.take 12 _) = dr at *
  have hdl : dr.length ≤ 12 := by rw [← hdr]; simp; omega
  ktr_call (texts_c (mean := _) (mg := _) (mb := _) (rest := _) _ _ _ _ hI) hdl
  intro l9 h9 tk9 ts n9 hts F9 N9
  obtain ⟨tx, hS, hT⟩ := hts
  replace hT := txs_mono hT hdl
  try dsimp only
  ktr_rel
  rename News _ _ _ _ => N5
  replace N5 := news_sub (X := [(l9, W.listOf ts.toArray n9), (41, tabObj #[])]) N5 (by
    intro p hp
    rcases List.mem_cons.mp hp with e | hp
    · rw [e]; exact List.Mem.head _
    · rw [List.mem_singleton.mp hp]
      repeat (first | exact List.Mem.head _ | apply List.Mem.tail))
  ktr_call (ordered_c (mean := _) (mg := _) (mb := _) _ _ _ _ hS) hT
  refine ⟨by assumption, ?_⟩
  intro h4 tk4 ps4 F4 N4
  try dsimp only
  k_steps
end
end Mine
end
theorem PySem.Challenge.cw_mg0011_02_holds : PySem.Challenge.rw_mg0011_02.Holds := by
  exact Mine.law_h
