import PyProof.Rows.All
import Wide.All
import OpenK.AllK
import Wide.FinOn
import Lean
import PySem.Challenge.RW_mg0011_01
set_option Elab.async false
set_option maxRecDepth 100000
set_option maxHeartbeats 8000000
section
open PySem PySem.W PyProof.Rows
open_top Mine.hd for PySem.Challenge.rw_mg0011_01
end
section
open PySem PySem.W PyProof.Rows PySem.Builtin PySem.Builtin.Str
namespace Mine
def sub1 (c : Nat) (z : List Nat) (l : List Nat) : List Nat := l.flatMap fun a => if a = c then z else [a]
theorem sub1_append (c z a b) : sub1 c z (a ++ b) = sub1 c z a ++ sub1 c z b := by simp [sub1]
theorem sub1_free (c z) : ∀ l : List Nat, c ∉ l → sub1 c z l = l
  | [], _ => rfl
  | k :: r, h => by
    have h1 : ¬ k = c := fun e => h (e ▸ List.mem_cons_self ..)
    have h2 : c ∉ r := fun m => h (List.mem_cons_of_mem _ m)
    have ih := sub1_free c z r h2
    simp only [sub1, List.flatMap_cons, if_neg h1] at ih ⊢
    rw [ih]; rfl
theorem sub1_join (c : Nat) (z : Str) : ∀ parts : List Str, (∀ p ∈ parts, c ∉ p.cps.toList) → sub1 c z.cps.toList (Str.join ⟨#[c]⟩ parts).cps.toList = (Str.join z parts).cps.toList
  | [], _ => rfl
  | [p], h => sub1_free c _ _ (h p (List.mem_singleton.mpr rfl))
  | p :: q :: r, h => by
    have ih := sub1_join c z (q :: r) fun a ha => h a (List.mem_cons_of_mem _ ha)
    show sub1 c z.cps.toList (p ++ ⟨#[c]⟩ ++ Str.join ⟨#[c]⟩ (q :: r)).cps.toList = (p ++ z ++ Str.join z (q :: r)).cps.toList
    simp only [Str.cps_append, Array.toList_append]
    rw [sub1_append, sub1_append, ih, sub1_free c _ _ (h p (List.mem_cons_self ..))]
    have : sub1 c z.cps.toList [c] = z.cps.toList := by simp [sub1]
    rw [this]
theorem replace_sub (x z : Str) (c : Nat) : (Txt.replace x ⟨#[c]⟩ z).cps.toList = sub1 c z.cps.toList x.cps.toList := by
  rw [StrLaws.replace_one, ← sub1_join c z _ (StrLaws.split_free x c), StrLaws.join_split]
theorem sub1_len (c z n) (hz : z.length ≤ n) (hn : 1 ≤ n) : ∀ l : List Nat, (sub1 c z l).length ≤ n * l.length
  | [] => by simp [sub1]
  | k :: r => by
    have ih := sub1_len c z n hz hn r
    simp only [sub1, List.flatMap_cons, List.length_append, List.length_cons] at ih ⊢
    have : (if k = c then z else [k]).length ≤ n := by split; exact hz; exact hn
    rw [Nat.mul_add]; omega
def tok (q : Bool) (a : Nat) : List Nat :=
  if a = 38 then [38, 97, 109, 112, 59] else if a = 60 then [38, 108, 116, 59] else if a = 62 then [38, 103, 116, 59]
  else if q = true ∧ a = 34 then [38, 113, 117, 111, 116, 59] else if q = true ∧ a = 39 then [38, 35, 120, 50, 55, 59] else [a]
def escL (q : Bool) (l : List Nat) : List Nat := l.flatMap (tok q)
def escS (v : Str) (q : Bool) : Str := ⟨(escL q v.cps.toList).toArray⟩
def chain3 (v : Str) : Str := Txt.replace (Txt.replace (Txt.replace v (Str.ofString "&") (Str.ofString "&amp;")) (Str.ofString "<") (Str.ofString "&lt;")) (Str.ofString ">") (Str.ofString "&gt;")
def chain5 (v : Str) : Str := Txt.replace (Txt.replace (chain3 v) (Str.ofString "\"") (Str.ofString "&quot;")) (Str.ofString "'") (Str.ofString "&#x27;")
theorem str_ext {a : Str} {l : List Nat} (e : a.cps.toList = l) : a = ⟨l.toArray⟩ := by
  obtain ⟨⟨x⟩⟩ := a
  simp only at e
  rw [e]
theorem flat_sub (c z) (f g : Nat → List Nat) (h : ∀ a, sub1 c z (f a) = g a) : ∀ l : List Nat, sub1 c z (l.flatMap f) = l.flatMap g
  | [] => rfl
  | k :: r => by rw [List.flatMap_cons, List.flatMap_cons, sub1_append, h, flat_sub c z f g h r]
theorem esc3 (v : Str) : chain3 v = escS v false := by
  have e : (chain3 v).cps.toList = escL false v.cps.toList := by
    show (Txt.replace (Txt.replace (Txt.replace v ⟨#[38]⟩ (Str.ofString "&amp;")) ⟨#[60]⟩ (Str.ofString "&lt;")) ⟨#[62]⟩ (Str.ofString "&gt;")).cps.toList = _
    rw [replace_sub, replace_sub, replace_sub]
    show sub1 62 [38, 103, 116, 59] (sub1 60 [38, 108, 116, 59] (sub1 38 [38, 97, 109, 112, 59] v.cps.toList)) = _
    rw [show sub1 38 [38, 97, 109, 112, 59] v.cps.toList = v.cps.toList.flatMap _ from rfl,
      flat_sub 60 _ _ (fun a => if a = 60 then [38, 108, 116, 59] else if a = 38 then [38, 97, 109, 112, 59] else [a]),
      flat_sub 62 _ _ (tok false)]
    · rfl
    · intro a; unfold tok; (repeat' split) <;> simp_all [sub1]
    · intro a; (repeat' split) <;> simp_all [sub1]
  exact str_ext e
theorem esc5 (v : Str) : chain5 v = escS v true := by
  have e : (chain5 v).cps.toList = escL true v.cps.toList := by
    show (Txt.replace (Txt.replace (chain3 v) ⟨#[34]⟩ (Str.ofString "&quot;")) ⟨#[39]⟩ (Str.ofString "&#x27;")).cps.toList = _
    rw [replace_sub, replace_sub, esc3]
    show sub1 39 [38, 35, 120, 50, 55, 59] (sub1 34 [38, 113, 117, 111, 116, 59] (v.cps.toList.flatMap (tok false))) = _
    rw [flat_sub 34 _ _ (fun a => if a = 34 then [38, 113, 117, 111, 116, 59] else tok false a),
      flat_sub 39 _ _ (tok true)]
    · rfl
    · intro a; unfold tok; (repeat' split) <;> simp_all [sub1]
    · intro a; unfold tok; (repeat' split) <;> simp_all [sub1]
  exact str_ext e
section
variable {prog : Program} {w : World} {A : Around} {E : Value → Shared → Prop} {s : Shared} {x y z : Str} {t u v : Tok} {Q : Value → Shared → Prop}
theorem rep {c N : Nat} (hu : u ≠ 0) (hv : v ≠ 0) (huv : u ≠ v) (hx : x.length ≤ N) (hyz : (y == z) = false) (hz : z.length ≤ 6) (hy : y = ⟨#[c]⟩) (hN : N + (N + 1) * 6 ≤ 16777216)
    (hq : ∀ t' k, s.toks ≤ k → (Txt.replace x y z).length ≤ 6 * N → Q (.str (Txt.replace x y z) t') { s with toks := k }) : wpAny (model prog w) A (call (.builtin "str.replace") [.str x t, .str y u, .str z v]) Q E s := by
  have hlen : (Txt.replace x y z).length ≤ 6 * N := by
    have h1 := sub1_len c z.cps.toList 6 hz (by omega) x.cps.toList
    rw [hy]
    have h2 := replace_sub x z c
    have h3 := congrArg List.length h2
    have h4 : x.cps.toList.length ≤ N := hx
    have : (Txt.replace x ⟨#[c]⟩ z).length = (Txt.replace x ⟨#[c]⟩ z).cps.toList.length := rfl
    omega
  have hb : x.length + (x.length + 1) * z.length ≤ 16777216 := by
    have := Nat.mul_le_mul (Nat.succ_le_succ hx) hz
    simp only [Nat.succ_eq_add_one] at this
    omega
  have hl : tooLong (x.length + (occurrences x y 0 x.length (x.length + 1)).length * z.length) = false := by
    have h1 := StrLaws.occ_length_le x y 0 x.length (x.length + 1)
    have h2 : (occurrences x y 0 x.length (x.length + 1)).length * z.length ≤ (x.length + 1) * z.length := Nat.mul_le_mul_right _ h1
    have e : (2 : Nat) ^ 24 = 16777216 := by decide
    unfold tooLong sizeLine
    exact decide_eq_false (by omega)
  refine call_gives F.slot_str_replace (typeIs_str _ _ _) F.entry_str_replace (F.args_str_replace_3 _ _ _)
    (gives_str_replace x y z t u v fun _ => ⟨by simp [hu, hv], by simp [huv], hyz, hl⟩) ?_
  have hq' := fun t' k hk => hq t' k hk hlen
  clear hq hlen
  unfold Txt.replace at hq'
  cases hc : ((occurrences x y 0 x.length (x.length + 1)).isEmpty || (y.length == 0 && z.length == 0))
  · rw [hc] at hq'
    simp only [Bool.false_eq_true, if_false] at hq' ⊢
    exact ⟨fits_replaced y hb, hq' _ _ (Nat.le_succ _)⟩
  · rw [hc] at hq'
    simp only [if_true] at hq' ⊢
    exact hq' t s.toks (Nat.le_refl _)
end
end Mine
end
section
open PySem PySem.W PyProof.Rows PySem.Spec PySem.Calls PyProof.V
namespace Mine
theorem frN {h₀ h : Heap} {L : Addr} {m : Str → Option Value} {a : Str} {v : Value} (F : Fr h₀ L h m) (e : m a = some v) : Fr h₀ L h (fun y => if y = a then some v else m y) := by
  have : m = fun y => if y = a then some v else m y := funext fun y => by
    by_cases hy : y = a
    · rw [if_pos hy, hy, e]
    · rw [if_neg hy]
  rw [← this]; exact F
theorem forV {prog : Program} {w : World} {A : Around} {s : Shared} {env : Env} {E : Value → Shared → Prop} {Q : Flow → Shared → Prop} {x : Str} {px pos : Pos} {iter : Expr} {body : List Stmt} {h₀ : Heap} {m : Str → Option Value} (_F : Fr h₀ env.locals s.heap m) (hx : env.kindOf x = some .local)
    (hp : (env.scope.kind == .class || (env.scope.kind == .module && env.locals != env.globals)) = false)
    (hE : PassesOwn (model prog w) A env E)
    (hs : ∀ x, foldedSetIterable iter env x = pure x)
    (h : wpAny (model prog w) A (eval iter env) (fun xv s₁ => wpAny (model prog w) A (pyIter xv) (fun it s₂ => LoopAtV prog w A h₀ env x body Q E it s₂) E s₁) E s) :
    wpAny (model prog w) A (exec (.For (.Name x px) iter body [] pos) env) Q E s := For_invV h₀ hx hp h hs hE
def Hold (p : Prop) : Prop := p
theorem hold {p : Prop} (h : p) : Hold p := h
theorem unhold {p : Prop} (h : Hold p) : p := h
def TP (h₀ : Heap) (L I : Addr) (own : List (Addr × Obj)) (Jn : (Str → Option Value) → List (Addr × Obj) → Prop) (s₁ : Shared) (Q : Flow → Shared → Prop) (f : Flow) (s₂ : Shared) : Prop :=
  match f with
  | .ret v => Q (.ret v) s₂
  | .brk => Q .next s₂
  | _ => ∃ h' tk m' news', s₂ = { s₁ with heap := h', toks := tk } ∧ Fr h₀ L h' m' ∧ News h₀ L h' (news' ++ own) ∧ (∀ p ∈ news', p.1 ≠ I) ∧ Jn m' news'
section
variable {prog : Program} {w : World} {A : Around} {E : Value → Shared → Prop} {s : Shared} {env : Env} {h₀ : Heap} {x : Str} {body : List Stmt} {Q : Flow → Shared → Prop}
theorem news_swap {h₀ h : Heap} {L : Addr} {a b : List (Addr × Obj)} (N : News h₀ L h (a ++ b)) : News h₀ L h (b ++ a) :=
  fun p hp => N p (by simp only [List.mem_append] at hp ⊢; exact hp.symm)
theorem iterL {l : Addr} {vs : List Value} {m₀ : Str → Option Value} {news : List (Addr × Obj)} (J : Nat → (Str → Option Value) → List (Addr × Obj) → Prop)
    (hh : A.handled = none) (hls : s.heap.IsList l vs.toArray) (hlL : l ≠ env.locals) (F : Fr h₀ env.locals s.heap m₀) (N : News h₀ env.locals s.heap news) (hj : J 0 m₀ news)
    (turn : ∀ i v m₁ news₁ h tk own I, vs[i]? = some v → J i m₁ news₁ → (∀ p ∈ news₁, p.1 ≠ I) → (∀ p ∈ own, p.1 = I ∨ p.1 = l) → (∀ o, h.get? I = some o → (I, o) ∈ own) →
      Fr h₀ env.locals h (fun y => if y = x then some v else m₁ y) → News h₀ env.locals h (news₁ ++ own) →
      wpAny (model prog w) A (execs body env) (TP h₀ env.locals I own (J (i + 1)) { s with heap := h, toks := tk } Q) E { s with heap := h, toks := tk })
    (done : ∀ m₁ news₁ h tk, J vs.length m₁ news₁ → Fr h₀ env.locals h m₁ → News h₀ env.locals h news₁ → Q .next { s with heap := h, toks := tk }) :
    wpAny (model prog w) A (pyIter (.ref l)) (fun it s₂ => LoopAtV prog w A h₀ env x body Q E it s₂) E s := by
  obtain ⟨ol, hol, _⟩ := id hls
  have hne : l ≠ s.heap.objs.size := Nat.ne_of_lt (Heap.lt_size hol)
  refine wpAny_pyIter_list hls ?_
  have W := Walks.list (prog := prog) (w := w) hh s.heap.objs.size l hne vs.toArray
  have hlen : vs.toArray.size = vs.length := by simp
  rw [hlen] at W
  refine ⟨_, _, _, vs.length, _, _, m₀, news, J, rfl, W, ?_, ?_, ?_, ⟨⟨_, Heap.get?_push_size _ rfl, rfl, rfl⟩, hls.at fun o e => Heap.get?_push_of_some _ e⟩, F.push _, (fun p hp => ⟨Heap.get?_push_of_some _ (N p hp).1, (N p hp).2⟩), hj, ?_, ?_⟩
  · intro hm
    rcases List.mem_cons.mp hm with e | hm
    · exact absurd F.ns.lt (e ▸ Nat.lt_irrefl _)
    · exact hlL (List.mem_singleton.mp hm).symm
  · intro b hb
    rw [List.mem_singleton.mp hb]
    exact next_is_new F
  · intro p hp hI
    exact absurd (Heap.lt_size (N p hp).1) ((List.mem_singleton.mp hI) ▸ Nat.lt_irrefl _)
  · rintro i v m₁ news₁ s₁ own ⟨hh', tk', rfl⟩ hin hP hJ hoff hfp hat hall hst F₁ N₁
    have hP' : vs[i]? = some v := by simpa using hP
    refine wpAny_mono (turn i v m₁ news₁ hh' tk' own s.heap.objs.size hP' hJ (fun p hp e => hoff p hp (List.mem_singleton.mpr e)) (fun p hp => ?_) (fun o ho => hall _ (List.mem_cons_self ..) (next_is_new F) o ho) F₁ (news_swap N₁)) (fun f s₂ p => ?_) fun _ _ e => e
    · have := hfp p hp
      simpa using this
    · have fin : (∃ h' tk m' news', s₂ = { ({ s with heap := hh', toks := tk' } : Shared) with heap := h', toks := tk } ∧ Fr h₀ env.locals h' m' ∧ News h₀ env.locals h' (news' ++ own) ∧ (∀ p ∈ news', p.1 ≠ s.heap.objs.size) ∧ J (i + 1) m' news') →
          LoopStepU h₀ env.locals [s.heap.objs.size] own (J (i + 1)) { s with heap := hh', toks := tk' } .next s₂ := by
        rintro ⟨h', tk, m', news', e, F', N', hn, hm⟩
        exact ⟨rfl, h', tk, m', news', e, F', news_swap N', fun p hp hI => hn p hp (List.mem_singleton.mp hI), hm⟩
      cases f with
      | ret v => exact .ret p
      | brk => exact .brk p
      | next => exact .next (fin p)
      | cont => exact .cont (fin p)
  · rintro h' tk m' news' F' N' _ hJ
    exact done m' news' h' tk hJ F' N'
end
end Mine
end
section
open PySem PySem.W PyProof.Rows PySem.Spec PySem.Calls PyProof.V
namespace Mine
section
variable {prog : Program} {w : World} {A : Around} {E : Value → Shared → Prop} {s : Shared} {env : Env} {h₀ : Heap} {x : Str} {body : List Stmt} {Q : Flow → Shared → Prop}
theorem walkS (hh : A.handled = none) (x₀ : Str) (t : Tok) (I : Addr) (h : Heap) (ho : h.get? I = some { cls := .type (strIterType x₀), data := .fields #[.str x₀ t, .int 0 0] }) :
    ∃ St, Walks prog w A I [I] [I] x₀.cps.size (SignAt x₀) St ∧ St 0 h := by
  cases ha : x₀.cps.all (· < 128)
  · refine ⟨_, Walks.strWide hh I x₀ t, ⟨_, ho, by simp [strIterType, ha], rfl⟩⟩
  · refine ⟨_, Walks.strAscii hh I x₀ t, ⟨_, ho, by simp [strIterType, ha], rfl⟩⟩
theorem iterS {x₀ : Str} {t : Tok} {m₀ : Str → Option Value} {news : List (Addr × Obj)} (J : Nat → (Str → Option Value) → List (Addr × Obj) → Prop)
    (hh : A.handled = none) (F : Fr h₀ env.locals s.heap m₀) (N : News h₀ env.locals s.heap news) (hj : J 0 m₀ news)
    (turn : ∀ i c u m₁ news₁ h tk own I, x₀.cps[i]? = some c → J i m₁ news₁ → (∀ p ∈ news₁, p.1 ≠ I) → (∀ p ∈ own, p.1 = I) →
      Fr h₀ env.locals h (fun y => if y = x then some (.str ⟨#[c]⟩ u) else m₁ y) → News h₀ env.locals h (news₁ ++ own) →
      wpAny (model prog w) A (execs body env) (TP h₀ env.locals I own (J (i + 1)) { s with heap := h, toks := tk } Q) E { s with heap := h, toks := tk })
    (done : ∀ m₁ news₁ h tk, J x₀.cps.size m₁ news₁ → Fr h₀ env.locals h m₁ → News h₀ env.locals h news₁ → Q .next { s with heap := h, toks := tk }) :
    wpAny (model prog w) A (pyIter (.str x₀ t)) (fun it s₂ => LoopAtV prog w A h₀ env x body Q E it s₂) E s := by
  refine wpAny_pyIter_strU ?_
  obtain ⟨St, W, hst⟩ := walkS (prog := prog) (w := w) hh x₀ t s.heap.objs.size (s.heap.push { cls := .type (strIterType x₀), data := .fields #[.str x₀ t, .int 0 0] }) (Heap.get?_push_size _ rfl)
  refine ⟨_, _, _, x₀.cps.size, _, _, m₀, news, J, rfl, W, ?_, ?_, ?_, hst, F.push _, (fun p hp => ⟨Heap.get?_push_of_some _ (N p hp).1, (N p hp).2⟩), hj, ?_, ?_⟩
  · intro hm
    exact absurd F.ns.lt ((List.mem_singleton.mp hm) ▸ Nat.lt_irrefl _)
  · intro b hb
    rw [List.mem_singleton.mp hb]
    exact next_is_new F
  · intro p hp hI
    exact absurd (Heap.lt_size (N p hp).1) ((List.mem_singleton.mp hI) ▸ Nat.lt_irrefl _)
  · rintro i _ m₁ news₁ s₁ own ⟨hh', tk', rfl⟩ hin ⟨c, u, hc, rfl⟩ hJ hoff hfp hat hall hst F₁ N₁
    refine wpAny_mono (turn i c u m₁ news₁ hh' tk' own s.heap.objs.size hc hJ (fun p hp e => hoff p hp (List.mem_singleton.mpr e)) (fun p hp => List.mem_singleton.mp (hfp p hp)) F₁ (news_swap N₁)) (fun f s₂ p => ?_) fun _ _ e => e
    have fin : (∃ h' tk m' news', s₂ = { ({ s with heap := hh', toks := tk' } : Shared) with heap := h', toks := tk } ∧ Fr h₀ env.locals h' m' ∧ News h₀ env.locals h' (news' ++ own) ∧ (∀ p ∈ news', p.1 ≠ s.heap.objs.size) ∧ J (i + 1) m' news') →
          LoopStepU h₀ env.locals [s.heap.objs.size] own (J (i + 1)) { s with heap := hh', toks := tk' } .next s₂ := by
      rintro ⟨h', tk, m', news', e, F', N', hn, hm⟩
      exact ⟨rfl, h', tk, m', news', e, F', news_swap N', fun p hp hI => hn p hp (List.mem_singleton.mp hI), hm⟩
    cases f with
    | ret v => exact .ret p
    | brk => exact .brk p
    | next => exact .next (fin p)
    | cont => exact .cont (fin p)
  · rintro h' tk m' news' F' N' _ hJ
    exact done m' news' h' tk hJ F' N'
end
end Mine
end
section
open PySem PySem.W PyProof.Rows PySem.Spec PySem.Calls PyProof.V
namespace Mine
section
variable {prog : Program} {w : World} {A : Around} {E : Value → Shared → Prop} {s : Shared} {env : Env} {h₀ : Heap} {x : Str} {body : List Stmt} {Q : Flow → Shared → Prop}
theorem iterR {r : Addr} {b : Int} {t u v : Tok} {n : Nat} {m₀ : Str → Option Value} {news : List (Addr × Obj)} (J : Nat → (Str → Option Value) → List (Addr × Obj) → Prop)
    (hh : A.handled = none) (hr : IsRange s.heap r 0 b 1 t u v) (hb : b = ((n : Nat) : Int)) (hn : n ≤ 1000000) (F : Fr h₀ env.locals s.heap m₀) (N : News h₀ env.locals s.heap news) (hj : J 0 m₀ news)
    (turn : ∀ i u m₁ news₁ h tk own I, i < n → J i m₁ news₁ → (∀ p ∈ news₁, p.1 ≠ I) → (∀ p ∈ own, p.1 = I) →
      Fr h₀ env.locals h (fun y => if y = x then some (.int ((i : Nat) : Int) u) else m₁ y) → News h₀ env.locals h (news₁ ++ own) →
      wpAny (model prog w) A (execs body env) (TP h₀ env.locals I own (J (i + 1)) { s with heap := h, toks := tk } Q) E { s with heap := h, toks := tk })
    (done : ∀ m₁ news₁ h tk, J n m₁ news₁ → Fr h₀ env.locals h m₁ → News h₀ env.locals h news₁ → Q .next { s with heap := h, toks := tk }) :
    wpAny (model prog w) A (pyIter (.ref r)) (fun it s₂ => LoopAtV prog w A h₀ env x body Q E it s₂) E s := by
  subst hb
  refine wpAny_pyIter_range hr (small_one (by omega) (by omega) (by omega) (by omega)) ?_
  have W := LCg.range_walks (prog := prog) (w := w) (I := s.heap.objs.size) hh 0 n
  refine ⟨_, _, _, n, _, _, m₀, news, J, rfl, W, ?_, ?_, ?_, ?_, F.push _, (fun p hp => ⟨Heap.get?_push_of_some _ (N p hp).1, (N p hp).2⟩), hj, ?_, ?_⟩
  · intro hm
    exact absurd F.ns.lt ((List.mem_singleton.mp hm) ▸ Nat.lt_irrefl _)
  · intro b hb
    rw [List.mem_singleton.mp hb]
    exact next_is_new F
  · intro p hp hI
    exact absurd (Heap.lt_size (N p hp).1) ((List.mem_singleton.mp hI) ▸ Nat.lt_irrefl _)
  · show IsRangeIter _ _ _ _ _
    rw [show Builtin.Range.rangeSize 0 ((n : Nat) : Int) 1 = ((n : Nat) : Int) by have := rangeSize_nat 0 ((n : Nat) : Int); rw [this]; omega]
    have : IsRangeIter (s.heap.push { cls := .type "range_iterator", data := .fields #[rawInt 0, rawInt ((n : Nat) : Int), rawInt 1] }) s.heap.objs.size 0 ((n : Nat) : Int) 1 := Heap.get?_push_size _ rfl
    simpa using this
  · rintro i _ m₁ news₁ s₁ own ⟨hh', tk', rfl⟩ hin ⟨u, rfl⟩ hJ hoff hfp hat hall hst F₁ N₁
    rw [Int.zero_add] at F₁
    refine wpAny_mono (turn i u m₁ news₁ hh' tk' own s.heap.objs.size hin hJ (fun p hp e => hoff p hp (List.mem_singleton.mpr e)) (fun p hp => List.mem_singleton.mp (hfp p hp)) F₁ (news_swap N₁)) (fun f s₂ p => ?_) fun _ _ e => e
    have fin : (∃ h' tk m' news', s₂ = { ({ s with heap := hh', toks := tk' } : Shared) with heap := h', toks := tk } ∧ Fr h₀ env.locals h' m' ∧ News h₀ env.locals h' (news' ++ own) ∧ (∀ p ∈ news', p.1 ≠ s.heap.objs.size) ∧ J (i + 1) m' news') →
          LoopStepU h₀ env.locals [s.heap.objs.size] own (J (i + 1)) { s with heap := hh', toks := tk' } .next s₂ := by
      rintro ⟨h', tk, m', news', e, F', N', hn, hm⟩
      exact ⟨rfl, h', tk, m', news', e, F', news_swap N', fun p hp hI => hn p hp (List.mem_singleton.mp hI), hm⟩
    cases f with
    | ret v => exact .ret p
    | brk => exact .brk p
    | next => exact .next (fin p)
    | cont => exact .cont (fin p)
  · rintro h' tk m' news' F' N' _ hJ
    exact done m' news' h' tk hJ F' N'
def TF (h₀ : Heap) (L : Addr) (nw : List (Addr × Obj)) (Jn : (Str → Option Value) → Prop) (s₁ : Shared) (Q : Flow → Shared → Prop) (f : Flow) (s₂ : Shared) : Prop :=
  match f with
  | .ret v => Q (.ret v) s₂
  | .brk => Q .next s₂
  | _ => ∃ h' tk m', s₂ = { s₁ with heap := h', toks := tk } ∧ Fr h₀ L h' m' ∧ News h₀ L h' nw ∧ Jn m'
theorem tf_next {L : Addr} {nw : List (Addr × Obj)} {Jn : (Str → Option Value) → Prop} {s₁ : Shared} {h' : Heap} {tk : Nat} {m' : Str → Option Value}
    (F : Fr h₀ L h' m') (N : News h₀ L h' nw) (hj : Jn m') : TF h₀ L nw Jn s₁ Q .next { s₁ with heap := h', toks := tk } := ⟨h', tk, m', rfl, F, N, hj⟩
theorem tf_ret {L : Addr} {nw : List (Addr × Obj)} {Jn : (Str → Option Value) → Prop} {s₁ s₂ : Shared} {v : Value} (h : Q (.ret v) s₂) : TF h₀ L nw Jn s₁ Q (.ret v) s₂ := h
theorem tf_tp {L I : Addr} {news own : List (Addr × Obj)} {Jn : (Str → Option Value) → Prop} {s₁ : Shared} {f : Flow} {s₂ : Shared} (off : ∀ p ∈ news, p.1 ≠ I)
    (h : TF h₀ L (news ++ own) Jn s₁ Q f s₂) : TP h₀ L I own (fun m nw => Jn m ∧ nw = news) s₁ Q f s₂ := by
  cases f with
  | ret v => exact h
  | brk => exact h
  | next => obtain ⟨h', tk, m', e, F, N, hj⟩ := h; exact ⟨h', tk, m', news, e, F, N, off, hj, rfl⟩
  | cont => obtain ⟨h', tk, m', e, F, N, hj⟩ := h; exact ⟨h', tk, m', news, e, F, N, off, hj, rfl⟩
theorem iterRF {r : Addr} {b : Int} {t u v : Tok} {n : Nat} {m₀ : Str → Option Value} {news : List (Addr × Obj)} (J : Nat → (Str → Option Value) → Prop)
    (hh : A.handled = none) (hr : IsRange s.heap r 0 b 1 t u v) (hb : b = ((n : Nat) : Int)) (hn : n ≤ 1000000) (F : Fr h₀ env.locals s.heap m₀) (N : News h₀ env.locals s.heap news) (hj : J 0 m₀)
    (turn : ∀ i u m₁ h tk own, i < n → J i m₁ → Fr h₀ env.locals h (fun y => if y = x then some (.int ((i : Nat) : Int) u) else m₁ y) → News h₀ env.locals h (news ++ own) →
      wpAny (model prog w) A (execs body env) (TF h₀ env.locals (news ++ own) (J (i + 1)) { s with heap := h, toks := tk } Q) E { s with heap := h, toks := tk })
    (done : ∀ m₁ h tk, J n m₁ → Fr h₀ env.locals h m₁ → News h₀ env.locals h news → Q .next { s with heap := h, toks := tk }) :
    wpAny (model prog w) A (pyIter (.ref r)) (fun it s₂ => LoopAtV prog w A h₀ env x body Q E it s₂) E s :=
  iterR (fun i m nw => J i m ∧ nw = news) hh hr hb hn F N ⟨hj, rfl⟩
    (fun i u m₁ news₁ h tk own I hi hJ off hown F₁ N₁ => by
      obtain ⟨hJ, rfl⟩ := hJ
      exact wpAny_mono (turn i u m₁ h tk own hi hJ F₁ N₁) (fun f s₂ p => tf_tp off p) fun _ _ e => e)
    (fun m₁ news₁ h tk hJ F₁ N₁ => by
      obtain ⟨hJ, rfl⟩ := hJ
      exact done m₁ h tk hJ F₁ N₁)
theorem iterLF {l : Addr} {vs : List Value} {m₀ : Str → Option Value} {news : List (Addr × Obj)} (J : Nat → (Str → Option Value) → Prop)
    (hh : A.handled = none) (hls : s.heap.IsList l vs.toArray) (hlL : l ≠ env.locals) (F : Fr h₀ env.locals s.heap m₀) (N : News h₀ env.locals s.heap news) (hj : J 0 m₀)
    (turn : ∀ i v m₁ h tk own, vs[i]? = some v → J i m₁ → Fr h₀ env.locals h (fun y => if y = x then some v else m₁ y) → News h₀ env.locals h (news ++ own) →
      wpAny (model prog w) A (execs body env) (TF h₀ env.locals (news ++ own) (J (i + 1)) { s with heap := h, toks := tk } Q) E { s with heap := h, toks := tk })
    (done : ∀ m₁ h tk, J vs.length m₁ → Fr h₀ env.locals h m₁ → News h₀ env.locals h news → Q .next { s with heap := h, toks := tk }) :
    wpAny (model prog w) A (pyIter (.ref l)) (fun it s₂ => LoopAtV prog w A h₀ env x body Q E it s₂) E s :=
  iterL (fun i m nw => J i m ∧ nw = news) hh hls hlL F N ⟨hj, rfl⟩
    (fun i v m₁ news₁ h tk own I hi hJ off hown _ F₁ N₁ => by
      obtain ⟨hJ, rfl⟩ := hJ
      exact wpAny_mono (turn i v m₁ h tk own hi hJ F₁ N₁) (fun f s₂ p => tf_tp off p) fun _ _ e => e)
    (fun m₁ news₁ h tk hJ F₁ N₁ => by
      obtain ⟨hJ, rfl⟩ := hJ
      exact done m₁ h tk hJ F₁ N₁)
end
end Mine
end
section
open PySem PySem.W PyProof.Rows PyProof.Rows.LSm PySem.Calls PyProof.V PySem.Spec
namespace Mine
def lst (vs : List Value) (n : Nat) : Obj := W.listOf vs.toArray n
def bls (fs : List Bool) : List Value := fs.map Value.bool
theorem isListN {h₀ h : Heap} {L l : Addr} {news : List (Addr × Obj)} {a : Array Value} {n : Nat} (N : News h₀ L h news) (hm : (l, W.listOf a n) ∈ news) : h.IsList l a := ⟨_, (N _ hm).1, rfl, n, rfl⟩
theorem strs_get : ∀ {vs : List Value} {ys : List Str} {i : Nat} {y : Str}, StrsAre vs ys → ys[i]? = some y → ∃ t, vs[i]? = some (.str y t)
  | _, _, i, y, .nil, h => by simp at h
  | _, _, 0, y, .cons z t r, h => by simp at h; subst h; exact ⟨t, rfl⟩
  | _, _, i + 1, y, .cons z t r, h => by simpa using strs_get r (by simpa using h)
theorem strs_len : ∀ {vs : List Value} {ys : List Str}, StrsAre vs ys → vs.length = ys.length
  | _, _, .nil => rfl
  | _, _, .cons z t r => by simp [strs_len r]
theorem strs_push : ∀ {vs : List Value} {ys : List Str} (y : Str) (t : Tok), StrsAre vs ys → StrsAre (vs ++ [.str y t]) (ys ++ [y])
  | _, _, y, t, .nil => .cons y t .nil
  | _, _, y, t, .cons z u r => .cons z u (strs_push y t r)
theorem last_item {prog : Program} {w : World} {A : Around} {E : Value → Shared → Prop} {s : Shared} {value slice : PySem.Expr} {l : Addr} {vs : List Value} {u : Tok} {v : Value} {Q : Value → Shared → Prop}
    (hl : s.heap.IsList l vs.toArray) (hx : vs[vs.length - 1]? = some v) (h : Q v s)
    (hs : subscripted slice false (.ref l) (.int (-1) u) = operate [.ref l, .int (-1) u] (getItem (.ref l) (.int (-1) u)) := by with_unfolding_all rfl) :
    wpAny (model prog w) A (subscriptTail value slice (.ref l) (.int (-1) u)) Q E s := by
  have hp : 0 < vs.length := by
    cases vs with
    | nil => simp at hx
    | cons a b => simp
  refine tail_any hl.typeIs slot_list_getitem.lookup (wpAny_getItem_list_neg hl (by decide) (by simp; omega) (by decide) ?_ h) hs
  have : ((-1 : Int) + (vs.toArray.size : Int)).toNat = vs.length - 1 := by simp; omega
  rw [this]; simpa using hx
theorem allLt_ne {d : Addr} : ∀ {l : List (Addr × Obj)}, AllLt d l → ∀ p ∈ l, p.1 ≠ d
  | [], _ => fun _ h => nomatch h
  | p :: r, h => fun q hq => by
    rcases List.mem_cons.mp hq with e | hq
    · subst e; exact Nat.ne_of_lt h.1
    · exact allLt_ne h.2 q hq
theorem tp_next {h₀ : Heap} {L I : Addr} {own : List (Addr × Obj)} {Jn : (Str → Option Value) → List (Addr × Obj) → Prop} {s₁ : Shared} {Q : Flow → Shared → Prop} {h' : Heap} {tk : Nat} {m' : Str → Option Value} {news' : List (Addr × Obj)}
    (F : Fr h₀ L h' m') (N : News h₀ L h' (news' ++ own)) (hn : ∀ p ∈ news', p.1 ≠ I) (hj : Jn m' news') : TP h₀ L I own Jn s₁ Q .next { s₁ with heap := h', toks := tk } := ⟨h', tk, m', news', rfl, F, N, hn, hj⟩
theorem bls_get {fs : List Bool} {i : Nat} {v : Value} (h : (bls fs)[i]? = some v) : ∃ b, fs[i]? = some b ∧ v = .bool b := by
  simp only [bls, List.getElem?_map] at h
  cases e : fs[i]? with
  | none => rw [e] at h; cases h
  | some b => rw [e] at h; exact ⟨b, rfl, (Option.some.inj h).symm⟩
theorem isTupN {h₀ h : Heap} {L l : Addr} {news : List (Addr × Obj)} {a : Array Value} {n : Nat} (N : News h₀ L h news) (hm : (l, seqObj "tuple" a n) ∈ news) : IsTup h l a := ⟨_, (N _ hm).1, rfl, n, rfl⟩
theorem bls_are : ∀ fs : List Bool, BoolsAre (bls fs) fs
  | [] => .nil
  | b :: r => .cons b (bls_are r)
theorem escL_app (q : Bool) (a b : List Nat) : escL q (a ++ b) = escL q a ++ escL q b := by simp [escL]
theorem join_flat : ∀ ys : List Str, (Str.join (Str.ofString "") ys).cps.toList = ys.flatMap fun y => y.cps.toList
  | [] => rfl
  | [y] => by simp [Str.join]
  | y :: z :: r => by
    have ih := join_flat (z :: r)
    show (y ++ Str.ofString "" ++ Str.join (Str.ofString "") (z :: r)).cps.toList = _
    rw [Str.cps_append, Str.cps_append, Array.toList_append, Array.toList_append, ih]
    show y.cps.toList ++ [] ++ _ = y.cps.toList ++ _
    rw [List.append_nil]
    rfl
theorem str_eq_iff (a b : Str) : a = b ↔ a.cps.toList = b.cps.toList := by
  obtain ⟨⟨x⟩⟩ := a
  obtain ⟨⟨y⟩⟩ := b
  simp
section
variable {prog : Program} {w : World} {A : Around} {E : Value → Shared → Prop} {s : Shared} {h₀ : Heap} {L l : Addr} {m : Str → Option Value} {news : List (Addr × Obj)} {value slice : PySem.Expr} {vu : Value} {y : Int} {Q : Value → Shared → Prop} {fs : List Bool} {n : Nat}
theorem pick_up (vs : List Value) (h : 0 ≤ y) : kms_pick vs none (some y) = vs.take y.toNat := by
  unfold kms_pick kms_lo kms_hi
  simp only [List.drop_zero, Nat.sub_zero]
  rw [if_neg (by omega), List.take_eq_take_iff]
  omega
theorem pick_from (vs : List Value) (h : 0 ≤ y) : kms_pick vs (some y) none = vs.drop y.toNat := by
  unfold kms_pick kms_lo kms_hi
  simp only []
  rw [if_neg (by omega)]
  rcases Nat.le_total y.toNat vs.length with h1 | h1
  · rw [Nat.min_eq_left h1, List.take_of_length_le (by simp)]
  · rw [Nat.min_eq_right h1, List.drop_length, List.drop_of_length_le h1]; simp
end
section
variable {prog : Program} {w : World} {A : Around} {E : Value → Shared → Prop} {s : Shared} {h₀ : Heap} {L l b : Addr} {m : Str → Option Value} {news : List (Addr × Obj)} {value slice : PySem.Expr} {vu : Value} {y : Int} {Q : Value → Shared → Prop} {vs ws : List Value} {n : Nat}
theorem slV_up (F : Fr h₀ L s.heap m) (N : News h₀ L s.heap news) (hm : (l, W.listOf vs.toArray n) ∈ news) (pu : IsPart vu (some y)) (h0 : 0 ≤ y) (hz : vs.length ≤ 1000000)
    (h : ∀ D h', Fr h₀ L h' m → News h₀ L h' ((D, W.listOf (vs.take y.toNat).toArray 0) :: news) → (∀ p ∈ news, p.1 < D) → Q (.ref D) { s with heap := h' })
    (hs : subscripted slice false (.ref l) (.ref s.heap.objs.size) = operate [.ref s.heap.objs.size, .ref l] (getItem (.ref l) (.ref s.heap.objs.size)) := by with_unfolding_all rfl) (ht : ∀ r, letTemporaryGo value (.ref l) r = pure () := by kmk_pure) :
    wpAny (model prog w) A (subscriptTail value slice (.ref l) (.ref s.heap.objs.size)) Q E { s with heap := s.heap.push { cls := .type "slice", data := .fields #[.none, vu, .none] } } := by
  refine kms_slice_lit F N (isListN N hm) .none pu (pick_up _ h0) (fun D h' F' N' l1 => h D h' F' ?_ l1) hs ht ?_
  · exact N'
  · show vs.length ≤ 2 ^ 24
    omega
theorem slV_from (F : Fr h₀ L s.heap m) (N : News h₀ L s.heap news) (hm : (l, W.listOf vs.toArray n) ∈ news) (pu : IsPart vu (some y)) (h0 : 0 ≤ y) (hz : vs.length ≤ 1000000)
    (h : ∀ D h', Fr h₀ L h' m → News h₀ L h' ((D, W.listOf (vs.drop y.toNat).toArray 0) :: news) → (∀ p ∈ news, p.1 < D) → Q (.ref D) { s with heap := h' })
    (hs : subscripted slice false (.ref l) (.ref s.heap.objs.size) = operate [.ref s.heap.objs.size, .ref l] (getItem (.ref l) (.ref s.heap.objs.size)) := by with_unfolding_all rfl) (ht : ∀ r, letTemporaryGo value (.ref l) r = pure () := by kmk_pure) :
    wpAny (model prog w) A (subscriptTail value slice (.ref l) (.ref s.heap.objs.size)) Q E { s with heap := s.heap.push { cls := .type "slice", data := .fields #[vu, .none, .none] } } := by
  refine kms_slice_lit F N (isListN N hm) pu .none (pick_from _ h0) (fun D h' F' N' l1 => h D h' F' ?_ l1) hs ht ?_
  · exact N'
  · show vs.length ≤ 2 ^ 24
    omega
theorem addV {n2 : Nat} (F : Fr h₀ L s.heap m) (N : News h₀ L s.heap news) (hm : (l, W.listOf vs.toArray n) ∈ news) (hm2 : (b, W.listOf ws.toArray n2) ∈ news) (hz : vs.length ≤ 1000000) (hz2 : ws.length ≤ 1000000)
    (h : ∀ D h', Fr h₀ L h' m → News h₀ L h' ((D, W.listOf (vs ++ ws).toArray 0) :: news) → (∀ p ∈ news, p.1 < D) → Q (.ref D) { s with heap := h' }) :
    wpAny (model prog w) A (binaryOp .Add (.ref l) (.ref b)) Q E s := by
  refine add_arrays F N (isListN N hm) (isListN N hm2) (fun h' F' N' => h _ h' F' N' fun p hp => Heap.lt_size (N p hp).1) ?_
  show vs.length + ws.length ≤ 2 ^ 24
  omega
end
theorem ints_drop : ∀ {vs : List Value} {ns : List Int} (k : Nat), IntsAre vs ns → IntsAre (vs.drop k) (ns.drop k)
  | _, _, 0, h => h
  | _, _, k + 1, .nil => .nil
  | _, _, k + 1, .cons a t r => by simpa using ints_drop k r
theorem ints_app : ∀ {vs ws : List Value} {ns ms : List Int}, IntsAre vs ns → IntsAre ws ms → IntsAre (vs ++ ws) (ns ++ ms)
  | _, _, _, _, .nil, h => h
  | _, _, _, _, .cons a t r, h => .cons a t (ints_app r h)
def OkS (v : Str) : Prop := ∀ c ∈ v.cps.toList, c < 1114112
theorem okS_iff (v : Str) : PyData.strOk v = true ↔ OkS v := by
  unfold PyData.strOk OkS
  rw [← Array.all_toList, List.all_eq_true]
  simp
theorem canLayS : ∀ ns : List Str, (∀ x ∈ ns, OkS x) → PyData.canLayAll0 (ns.map PyData.str) = true
  | [], _ => rfl
  | a :: r, h => by
    have h1 := (okS_iff a).mpr (h a (List.mem_cons_self ..))
    simp [PyData.canLayAll0, PyData.canLay0, h1, canLayS r fun x hx => h x (List.mem_cons_of_mem _ hx)]
theorem depthS : ∀ ns : List Str, PyData.depthAll (ns.map PyData.str) = 0
  | [] => rfl
  | _ :: r => by simp [PyData.depthAll, PyData.depth, depthS r]
theorem shapedS (ns : List Str) (ok : ∀ x ∈ ns, OkS x) : SeqAt.shaped (.list (ns.map PyData.str)) = true := by
  simp [SeqAt.shaped, PyData.canLay0, PyData.depth, canLayS ns ok, depthS]
theorem sameS : ∀ ns ms : List Str, PySem.Spec.sameAll (ns.map PyData.str) (ms.map PyData.str) = decide (ns = ms)
  | [], [] => by simp [PySem.Spec.sameAll]
  | [], _ :: _ => by simp [PySem.Spec.sameAll]
  | _ :: _, [] => by simp [PySem.Spec.sameAll]
  | a :: r, b :: t => by
    simp only [List.map_cons, PySem.Spec.sameAll, PySem.Spec.same, sameS r t]
    by_cases h : a = b <;> by_cases h' : r = t <;> simp [h, h']
theorem sameLS (ns ms : List Str) : PySem.Spec.same (.list (ns.map PyData.str)) (.list (ms.map PyData.str)) = decide (ns = ms) := by
  simp only [PySem.Spec.same]; exact sameS ns ms
theorem carriedS : ∀ {vs : List Value} {ns : List Str}, StrsAre vs ns → CarriedAll vs (ns.map PyData.str)
  | _, _, .nil => .nil
  | _, _, .cons _ t r => .cons (.str _ t) (carriedS r)
section
variable {prog : Program} {w : World} {A : Around} {E : Value → Shared → Prop} {s : Shared} {a b : Addr} {xs ys : List Value} {ns ms : List Str} {Q : Value → Shared → Prop}
theorem eq_strs (ha : s.heap.IsList a xs.toArray) (hb : s.heap.IsList b ys.toArray) (hi : StrsAre xs ns) (hj : StrsAre ys ms) (ok : ∀ x ∈ ns, OkS x) (ok2 : ∀ x ∈ ms, OkS x) (hu : A.units + 64 < cLine) (h : Q (.bool (decide (ns = ms))) s) :
    wpAny (model prog w) A (compareOp .Eq (.ref a) (.ref b)) Q E s :=
  eq_dataH_same (reads_newData ha (carriedS hi)) (reads_newData hb (carriedS hj)) (shapedS _ ok) (shapedS _ ok2) hu (SeqAt.noMix_of_shape (.list .str) rfl _ _ (list_map_has fun _ => rfl) (list_map_has fun _ => rfl)) (by rw [sameLS]; exact h)
theorem ne_strs (ha : s.heap.IsList a xs.toArray) (hb : s.heap.IsList b ys.toArray) (hi : StrsAre xs ns) (hj : StrsAre ys ms) (ok : ∀ x ∈ ns, OkS x) (ok2 : ∀ x ∈ ms, OkS x) (hu : A.units + 64 < cLine) (h : Q (.bool (!decide (ns = ms))) s) :
    wpAny (model prog w) A (compareOp .NotEq (.ref a) (.ref b)) Q E s :=
  ne_dataH_same (reads_newData ha (carriedS hi)) (reads_newData hb (carriedS hj)) (shapedS _ ok) (shapedS _ ok2) hu (SeqAt.noMix_of_shape (.list .str) rfl _ _ (list_map_has fun _ => rfl) (list_map_has fun _ => rfl)) (by rw [sameLS]; exact h)
end
theorem okS_tok (q : Bool) (c : Nat) (h : c < 1114112) : ∀ d ∈ tok q c, d < 1114112 := by
  intro d
  unfold tok
  repeat' split
  all_goals (simp only [List.mem_cons, List.not_mem_nil, or_false]; omega)
theorem okS_esc (v : Str) (q : Bool) (h : OkS v) : OkS (escS v q) := by
  intro d hd
  have hd : d ∈ v.cps.toList.flatMap (tok q) := hd
  obtain ⟨c, hc, hd⟩ := List.mem_flatMap.mp hd
  exact okS_tok q c (h c hc) d hd
theorem okS_app {a b : Str} (ha : OkS a) (hb : OkS b) : OkS (a ++ b) := by
  intro d hd
  rw [Str.cps_append, Array.toList_append] at hd
  rcases List.mem_append.mp hd with hd | hd
  · exact ha d hd
  · exact hb d hd
theorem strs_of : ∀ {ys : List Value} {g : Nat → Str}, (∀ (i : Nat) y, ys[i]? = some y → ∃ t, y = Value.str (g i) t) → StrsAre ys ((List.range ys.length).map g)
  | [], _, _ => .nil
  | y :: r, g, h => by
    obtain ⟨t, e⟩ := h 0 y rfl
    have ih := strs_of (ys := r) (g := fun i => g (i + 1)) fun i y' hy => h (i + 1) y' (by simpa using hy)
    rw [e, List.length_cons, List.range_succ_eq_map, List.map_cons, List.map_map]
    exact .cons _ t ih
theorem len_N {prog : Program} {w : World} {A : Around} {E : Value → Shared → Prop} {s : Shared} {l : Addr} {vs : List Value} {Q : Value → Shared → Prop} (hl : s.heap.IsList l vs.toArray) (hn : vs.length ≤ 1000000) (h : Q (.int (vs.length : Nat) (s.toks + 1)) { s with toks := s.toks + 1 + 1 }) : wpAny (model prog w) A (call (.builtin "len") [.ref l]) Q E s :=
  PyProof.Rows.len_list hl (by simp; omega) h
theorem item_N {prog : Program} {w : World} {A : Around} {E : Value → Shared → Prop} {s : Shared} {value slice : Expr} {l : Addr} {vs : List Value} {i : Nat} {u : Tok} {x : Value} {Q : Value → Shared → Prop} (hl : s.heap.IsList l vs.toArray)
    (hb : i ≤ 1000000) (hx : vs[i]? = some x) (h : Q x s)
    (hs : subscripted slice false (.ref l) (.int ((i : Nat) : Int) u) = operate [.ref l, .int ((i : Nat) : Int) u] (getItem (.ref l) (.int ((i : Nat) : Int) u))) (hg : ∀ r, letTemporaryGo value (.ref l) r = pure ()) :
    wpAny (model prog w) A (subscriptTail value slice (.ref l) (.int ((i : Nat) : Int) u)) Q E s :=
  PyProof.Rows.item_list hl (by omega) (by omega) (by simpa using hx) h hs hg
theorem ne_strs_same {prog : Program} {w : World} {A : Around} {E : Value → Shared → Prop} {s : Shared} {a b : Addr} {xs ys : List Value} {ns : List Str} {Q : Value → Shared → Prop} (ha : s.heap.IsList a xs.toArray) (hb : s.heap.IsList b ys.toArray) (hi : StrsAre xs ns) (hj : StrsAre ys ns) (ok : ∀ x ∈ ns, OkS x) (hu : A.units + 64 < cLine) (h : Q (.bool false) s) :
    wpAny (model prog w) A (compareOp .NotEq (.ref a) (.ref b)) Q E s := ne_strs ha hb hi hj ok ok hu (by simpa using h)
theorem news_sub {h₀ h : Heap} {L : Addr} {X Y : List (Addr × Obj)} (N : News h₀ L h Y) (hs : ∀ p ∈ X, p ∈ Y) : News h₀ L h X := fun p hp => N p (hs p hp)
theorem news_cons {h₀ h : Heap} {L : Addr} {p : Addr × Obj} {Y : List (Addr × Obj)} (N : News h₀ L h Y) (hm : p ∈ Y) : News h₀ L h (p :: Y) := fun q hq => by
  rcases List.mem_cons.mp hq with e | hq
  · rw [e]; exact N p hm
  · exact N q hq
theorem news_cons2 {h₀ h : Heap} {L : Addr} {p q : Addr × Obj} {Y : List (Addr × Obj)} (N : News h₀ L h Y) (hm : p ∈ Y) (hm2 : q ∈ Y) : News h₀ L h (p :: q :: Y) := news_cons (news_cons N hm2) (List.mem_cons_of_mem _ hm)
theorem item_C {prog : Program} {w : World} {A : Around} {E : Value → Shared → Prop} {s : Shared} {value slice : Expr} {l : Addr} {vs : List Value} {k : Int} {u : Tok} {x : Value} {Q : Value → Shared → Prop} (hl : s.heap.IsList l vs.toArray)
    (h0 : 0 ≤ k) (hb : k ≤ 1000000) (hx : vs[k.toNat]? = some x) (h : Q x s)
    (hs : subscripted slice false (.ref l) (.int k u) = operate [.ref l, .int k u] (getItem (.ref l) (.int k u))) (hg : ∀ r, letTemporaryGo value (.ref l) r = pure ()) :
    wpAny (model prog w) A (subscriptTail value slice (.ref l) (.int k u)) Q E s :=
  PyProof.Rows.item_list hl h0 (by omega) (by simpa using hx) h hs hg
theorem allLt_lt {d : Addr} : ∀ {l : List (Addr × Obj)}, AllLt d l → ∀ p ∈ l, p.1 < d
  | [], _ => fun _ h => nomatch h
  | p :: r, h => fun q hq => by
    rcases List.mem_cons.mp hq with e | hq
    · subst e; exact h.1
    · exact allLt_lt h.2 q hq
theorem allNe1 {d : Addr} {l : List (Addr × Obj)} (h : ∀ p ∈ l, p.1 < d) : ∀ p ∈ l, p.1 ≠ d + 1 := fun p hp => by
  have := h p hp
  show p.1 ≠ Nat.succ d
  exact Nat.ne_of_lt (Nat.lt_succ_of_lt this)
theorem allLt_ne1 {d : Addr} {l : List (Addr × Obj)} (h : AllLt d l) : ∀ p ∈ l, p.1 ≠ d + 1 := allNe1 (allLt_lt h)
end Mine
end
section
open PySem PySem.W PyProof.Rows PySem.Spec PySem.Calls PyProof.V
namespace Mine
def El (news : List (Addr × Obj)) (G : Nat → Value → Prop) (i : Nat) (y : Value) (news' : List (Addr × Obj)) : Prop := news' = news ∧ G i y
section
variable {prog : Program} {w : World} {A : Around} {E : Value → Shared → Prop} {s : Shared} {env : Env} {h₀ : Heap} {L : Addr} {m : Str → Option Value}
theorem walkS2 (hh : A.handled = none) (x₀ : Str) (t : Tok) (I : Addr) (h : Heap) (ho : h.get? I = some { cls := .type (strIterType x₀), data := .fields #[.str x₀ t, .int 0 0] }) :
    ∃ St : Nat → Heap → Prop, Walks prog w A I [I] [I] x₀.cps.size (SignAt x₀) St ∧ St 0 h ∧ (∀ i h, St i h → ∃ o, h.get? I = some o) ∧ (∀ i (h h' : Heap) o, St i h → h.get? I = some o → h'.get? I = some o → St i h') := by
  cases ha : x₀.cps.all (· < 128)
  · refine ⟨_, Walks.strWide hh I x₀ t, ⟨_, ho, by simp [strIterType, ha], rfl⟩, ?_, ?_⟩
    · rintro i h ⟨o, e, _⟩; exact ⟨o, e⟩
    · rintro i h h' o ⟨o', e, r⟩ e1 e2
      rw [e] at e1; injection e1 with e1; subst e1; exact ⟨_, e2, r⟩
  · refine ⟨_, Walks.strAscii hh I x₀ t, ⟨_, ho, by simp [strIterType, ha], rfl⟩, ?_, ?_⟩
    · rintro i h ⟨o, e, _⟩; exact ⟨o, e⟩
    · rintro i h h' o ⟨o', e, r⟩ e1 e2
      rw [e] at e1; injection e1 with e1; subst e1; exact ⟨_, e2, r⟩
def TextSrc (prog : Program) (w : World) (A : Around) (h₀ : Heap) (L : Addr) (m : Str → Option Value) (env : Env) (elt : Expr) (x : Str) (scope : Scope) (cl : List (Str × Addr)) (Fin : Shared → List Value → List (Addr × Obj) → Prop) (xv : Value) (s₁ : Shared) : Prop :=
  ∃ x₀ t news, xv = .str x₀ t ∧ A.handled = none ∧ Fr h₀ L s₁.heap m ∧ News h₀ L s₁.heap news ∧ x₀.cps.size ≤ sizeLine ∧
    ∀ g, LCg.CompRest prog w A h₀ L m env elt x scope cl { s₁ with heap := g } (fun _ => True) (SignAt x₀) (Fin { s₁ with heap := g }) x₀.cps.size 0 [] news
theorem TextSrc.intro {elt : Expr} {x : Str} {scope : Scope} {cl : List (Str × Addr)} {Fin : Shared → List Value → List (Addr × Obj) → Prop} {s₁ : Shared} {x₀ : Str} {t : Tok} {news : List (Addr × Obj)}
    (hh : A.handled = none) (F : Fr h₀ L s₁.heap m) (N : News h₀ L s₁.heap news) (hz : x₀.cps.size ≤ 1000000)
    (h : ∀ g, LCg.CompRest prog w A h₀ L m env elt x scope cl { s₁ with heap := g } (fun _ => True) (SignAt x₀) (Fin { s₁ with heap := g }) x₀.cps.size 0 [] news) :
    TextSrc prog w A h₀ L m env elt x scope cl Fin (.str x₀ t) s₁ := ⟨x₀, t, news, rfl, hh, F, N, by show x₀.cps.size ≤ 2 ^ 24; omega, h⟩
theorem ListComp_T {elt iter : Expr} {x : Str} {px : Pos} {scope : Scope} {cl : List (Str × Addr)} {pos : Pos} {Q : Value → Shared → Prop} (F₀ : Fr h₀ L s.heap m)
    (hclos : closureFor scope env = pure cl) (hcell : ∀ y ∈ scope.names, y.2 ≠ .cell) (hkind : scope.kind = .function)
    (hnames : ∀ y ∈ scope.names, y.2 = .local → scope.names.lookup y.1 = some .local) (hx : scope.names.lookup x = some .local)
    (h : wpAny (model prog w) A (eval iter env) (TextSrc prog w A h₀ L m env elt x scope cl (fun s₂ => LCg.FinE h₀ L m s₂ Q)) E s)
    (hs : ∀ x, foldedSetIterable iter env x = pure x := by intro _; rfl) :
    wpAny (model prog w) A (eval (.ListComp elt [⟨.Name x px, iter, [], 0⟩] scope pos) env) Q E s := by
  rw [eval_ListComp]
  refine wpAny_comprehension_free (use := none) rfl hs hclos hkind hnames (wpAny_mono h (fun xv s₁ h₁ => ?_) fun _ _ e => e)
  obtain ⟨x₀, t, news, rfl, hh, F, N, hsz, R⟩ := h₁
  refine wpAny_pyIter_strU ?_
  obtain ⟨St, W, hst, hIo, hSt⟩ := walkS2 (prog := prog) (w := w) hh x₀ t s₁.heap.objs.size (s₁.heap.push { cls := .type (strIterType x₀), data := .fields #[.str x₀ t, .int 0 0] }) (Heap.get?_push_size _ rfl)
  refine LCg.block_U W hsz hIo (fun i h h' o nw st e e' _ _ _ => hSt i h h' o st e e') hcell hkind hx hst (fun b hb => ?_)
    (F.keeps fun _ _ e => Heap.get?_push_of_some _ e) (N.grown fun _ _ e => Heap.get?_push_of_some _ e) (Nat.ne_of_lt F.ns.lt) (next_is_new F) (fun p hp => Nat.ne_of_lt (Heap.lt_size (N p hp).1)) trivial (R _) ?_
  · rw [List.mem_singleton.mp hb]
    show s₁.heap.objs.size < (s₁.heap.push _).objs.size
    rw [Heap.size_push]; exact Nat.lt_succ_self _
  · intro D C h tk m' ys news' F' N' o1 hn hC₀ hD₀ hCL hDL hCD offC fin
    refine ⟨m', hn, fun h'' hs'' => fin D h'' tk (F'.change hs'' hCL hC₀) (fun p hp => ?_) o1⟩
    refine ⟨hs''.extBut _ _ ?_ (N' p hp).1, (N' p hp).2⟩
    rcases List.mem_cons.mp hp with rfl | hp
    · exact Ne.symm hCD
    · exact offC p hp
end
section
variable {prog : Program} {w : World} {A : Around} {h₀ : Heap} {L : Addr} {m : Str → Option Value} {env : Env} {elt : PySem.Expr} {x : Str} {scope : Scope} {cl : List (Str × Addr)} {s : Shared} {S : List (Addr × Obj) → Prop} {P : Nat → Value → Prop} {Fin : List Value → List (Addr × Obj) → Prop} {news : List (Addr × Obj)}
theorem compG {n : Nat} (G : Nat → Value → Prop)
    (turn : ∀ i v I oI C oC D m₂ ys h tk (E' : Value → Shared → Prop), i < n → P i v → LCg.NsObj oC m₂ → m₂ x = some v → Fr h₀ L h m → News h₀ L h ((I, oI) :: (C, oC) :: (D, LCg.lst ys) :: news) → LCg.Off3 I C D news → ((@Ne Nat I C) ∧ (@Ne Nat I D) ∧ (@Ne Nat C D)) →
      wpAny (model prog w) A (eval elt (compEnvC scope cl C env)) (LCg.CompEnd h₀ L m { s with heap := h, toks := tk } I oI C oC D (LCg.lst ys) S (El news G i)) E' { s with heap := h, toks := tk })
    (fin : ∀ ys, ys.length = n → (∀ i y, ys[i]? = some y → G i y) → Fin ys news) : LCg.CompRest prog w A h₀ L m env elt x scope cl s S P Fin n 0 [] news := by
  have key : ∀ (j i : Nat) (ys : List Value), i + j = n → ys.length = i → (∀ i y, ys[i]? = some y → G i y) → LCg.CompRest prog w A h₀ L m env elt x scope cl s S P Fin j i ys news := by
    intro j
    induction j with
    | zero =>
      intro i ys hi hl hy
      exact LCg.CompRest.zero (fin ys (by omega) hy)
    | succ j ih =>
      intro i ys hi hl hy
      refine LCg.CompRest.succ ?_
      rintro v I oI C oC D m₂ h tk E' hP hC hx F N off ne
      refine wpAny_mono (turn i v I oI C oC D m₂ ys h tk E' (by omega) hP hC hx F N off ne) (fun y s₂ hq => ?_) fun _ _ e => e
      obtain ⟨h', tk', nw, e, F', N', off', hS, hn, hg⟩ := hq
      rw [hn] at N' off' hS
      refine ⟨h', tk', news, e, F', N', off', hS, ?_⟩
      refine ih (i + 1) _ (by omega) (by simp [hl]) ?_
      intro i' y' h'
      rcases Nat.lt_or_ge i' ys.length with hlt | hge
      · rw [List.getElem?_append_left hlt] at h'
        exact hy i' y' h'
      · rw [List.getElem?_append_right hge] at h'
        have : i' - ys.length = 0 := by
          rcases Nat.eq_zero_or_pos (i' - ys.length) with h0 | hp
          · exact h0
          · rw [List.getElem?_eq_none (show [y].length ≤ _ from hp)] at h'; cases h'
        rw [this] at h'
        have e1 : y = y' := by simpa using h'
        have e2 : i' = i := by omega
        rw [← e1, e2]; exact hg
  exact key n 0 [] (by omega) rfl (by intro i y h; simp at h)
theorem compR {S : List (Addr × Obj) → Prop} {n : Nat} {a : Int} (G : Nat → Value → Prop)
    (turn : ∀ i t I oI C oC D m₂ ys h tk (E' : Value → Shared → Prop), i < n → LCg.NsObj oC m₂ → m₂ x = some (.int (a + (i : Int)) t) → Fr h₀ L h m → News h₀ L h ((I, oI) :: (C, oC) :: (D, LCg.lst ys) :: news) → LCg.Off3 I C D news → ((@Ne Nat I C) ∧ (@Ne Nat I D) ∧ (@Ne Nat C D)) →
      wpAny (model prog w) A (eval elt (compEnvC scope cl C env)) (LCg.CompEnd h₀ L m { s with heap := h, toks := tk } I oI C oC D (LCg.lst ys) S (El news G i)) E' { s with heap := h, toks := tk })
    (fin : ∀ ys, ys.length = n → (∀ i y, ys[i]? = some y → G i y) → Fin ys news) : LCg.CompRest prog w A h₀ L m env elt x scope cl s S (fun i v => ∃ t, v = .int (a + (i : Int)) t) Fin n 0 [] news := by
  have key : ∀ (j i : Nat) (ys : List Value), i + j = n → ys.length = i → (∀ i y, ys[i]? = some y → G i y) → LCg.CompRest prog w A h₀ L m env elt x scope cl s S (fun i v => ∃ t, v = .int (a + (i : Int)) t) Fin j i ys news := by
    intro j
    induction j with
    | zero =>
      intro i ys hi hl hy
      exact LCg.CompRest.zero (fin ys (by omega) hy)
    | succ j ih =>
      intro i ys hi hl hy
      refine LCg.CompRest.succ ?_
      rintro v I oI C oC D m₂ h tk E' ⟨t, hv⟩ hC hx F N off ne
      rw [hv] at hx
      refine wpAny_mono (turn i t I oI C oC D m₂ ys h tk E' (by omega) hC hx F N off ne) (fun y s₂ hq => ?_) fun _ _ e => e
      obtain ⟨h', tk', nw, e, F', N', off', hS, hn, hg⟩ := hq
      rw [hn] at N' off' hS
      refine ⟨h', tk', news, e, F', N', off', hS, ?_⟩
      refine ih (i + 1) _ (by omega) (by simp [hl]) ?_
      intro i' y' h'
      rcases Nat.lt_or_ge i' ys.length with hlt | hge
      · rw [List.getElem?_append_left hlt] at h'
        exact hy i' y' h'
      · rw [List.getElem?_append_right hge] at h'
        have : i' - ys.length = 0 := by
          rcases Nat.eq_zero_or_pos (i' - ys.length) with h0 | hp
          · exact h0
          · rw [List.getElem?_eq_none (show [y].length ≤ _ from hp)] at h'; cases h'
        rw [this] at h'
        have e1 : y = y' := by simpa using h'
        have e2 : i' = i := by omega
        rw [← e1, e2]; exact hg
  exact key n 0 [] (by omega) rfl (by intro i y h; simp at h)
end
end Mine
end
section
open PySem PySem.W PyProof.Rows
namespace Mine
noncomputable abbrev PG := PySem.Challenge.rw_mg0011_01.row.prog
noncomputable abbrev KF (w : World) : Frag := Mine.hd.heap_39 w.params
noncomputable abbrev VW := Mine.hd.view_39
noncomputable abbrev LS := looseW Mine.hd.view_39 [Str.ofString "escape"]
abbrev Claim (k : Nat) (w : World) (mean : ExcName → Option Value) (mg mb : Str → Option Value) (f : Addr) (news : List (Addr × Obj)) (pre : Prop) (vs : List Value)
   (Ret : Heap → Heap → Addr → (Str → Option Value) → Shared → (Value → Shared → Prop) → Prop) : Prop :=
  ∀ (dp un : Nat) (gd : _) (cn : Str) (cs : Scope) (a : Addr) (ccd : Value) (cl : _) (outer : List Env) (A₀ : Around) (base h₀ : Heap) (L : Addr) (m : Str → Option Value) (s : Shared) (Q : Value → Shared → Prop) (E : Value → Shared → Prop),
    Below A₀ base outer h₀ → Fr h₀ L s.heap m → (KF w).In h₀ → News h₀ L s.heap news → Top VW LS mean mg mb h₀ → cs.kind = .function →
    pre → dp + k < recursionLimit → un + 8 * k < cLine → Ret base h₀ L m s Q →
      wpAny (model PG w) (ktrTop dp un gd cn cs L a ccd cl outer) (call (.ref f) vs) Q E s
local macro_rules | `(tactic| cell_enter) => `(tactic| (refine' code_def ?k1 ?k2 ?k3 ?k4 ?k5 ?kA ?kF ?kK ?k6 ?k7 ?k8 ?k9 ?kB ?_ ?c2 ?c3 ?c4 ?c5; (case kA => exact rfl); (case kF => exact rfl); (case kK => assumption); (case k1 => k_asm); (case k2 => k_asm); (case k3 => k_asm); (case k4 => k_asm); (case k5 => k_asm); (case k6 => k_is); (case k7 => k_is); (case k8 => ktr_room); (case k9 => first | exact BindsTo.of_eq rfl | exact binds_K (by k_in) rfl (by k_is) rfl rfl rfl); (case c5 => decide); (case kB => exact locs rfl); (case c2 => exact rfl); (case c3 => exact rfl); (case c4 => exact rfl); k_whole; intro g' L' h' FG' F' N' B' X' T'; (try dsimp only); (try k_lift B'); (try k_fold)))
local macro_rules | `(tactic| walk_at "execs cons") => `(tactic| ((with_reducible refine wpAny_execs_cons ?_); try dsimp only))
theorem escape_c {w mean mg mb news} (v : Str) (t : Tok) (q : Bool) : Claim 2 w mean mg mb 22 news (v.length ≤ 900) [.str v t, .bool q] (fun base h₀ L m s Q =>
     ∀ t h' tk', Fr h₀ L h' m → News h₀ L h' news → Q (.str (escS v q) t) {s with heap := h', toks := tk'}) := by
  dsimp only [Claim, PG, KF, VW, LS]; k_fill; intros; rename_i hret
  refine wpAny_call ?_
  k_dflt cell_enter
  cases q
  · iterate 11 (first | walk1 | (dsimp only; walk1))
    refine' rep ?k1 ?k2 ?k3 ?k4 ?k5 ?k6 ?k7 ?k8 ?_
    case k7 => exact rfl
    case k4 => assumption
    case k5 => decide
    case k6 => decide
    case k8 => omega
    case k1 => (try dsimp only); first | exact Nat.succ_ne_zero _ | omega | exact Nat.ne_of_gt (by omega)
    case k2 => (try dsimp only); first | exact Nat.succ_ne_zero _ | omega
    case k3 => (try dsimp only); first | exact Nat.ne_of_lt (Nat.lt_succ_self _) | omega
    intro t' k hk hl
    (try dsimp only at hk)
    (try dsimp only)
    iterate 12 (first | walk1 | (dsimp only; walk1))
    refine' rep ?k1 ?k2 ?k3 ?k4 ?k5 ?k6 ?k7 ?k8 ?_
    case k7 => exact rfl
    case k4 => assumption
    case k5 => decide
    case k6 => decide
    case k8 => omega
    case k1 => (try dsimp only); first | exact Nat.succ_ne_zero _ | omega | exact Nat.ne_of_gt (by omega)
    case k2 => (try dsimp only); first | exact Nat.succ_ne_zero _ | omega
    case k3 => (try dsimp only); first | exact Nat.ne_of_lt (Nat.lt_succ_self _) | omega
    intro t' k hk hl
    (try dsimp only at hk)
    (try dsimp only)
    iterate 12 (first | walk1 | (dsimp only; walk1))
    refine' rep ?k1 ?k2 ?k3 ?k4 ?k5 ?k6 ?k7 ?k8 ?_
    case k7 => exact rfl
    case k4 => assumption
    case k5 => decide
    case k6 => decide
    case k8 => omega
    case k1 => (try dsimp only); first | exact Nat.succ_ne_zero _ | omega | exact Nat.ne_of_gt (by omega)
    case k2 => (try dsimp only); first | exact Nat.succ_ne_zero _ | omega
    case k3 => (try dsimp only); first | exact Nat.ne_of_lt (Nat.lt_succ_self _) | omega
    intro t' k hk hl
    (try dsimp only at hk)
    (try dsimp only)
    k_steps
    rw [← esc3 v] at hret
    exact hret _ _ _ (by assumption) (by assumption)
  · iterate 11 (first | walk1 | (dsimp only; walk1))
    refine' rep ?k1 ?k2 ?k3 ?k4 ?k5 ?k6 ?k7 ?k8 ?_
    case k7 => exact rfl
    case k4 => assumption
    case k5 => decide
    case k6 => decide
    case k8 => omega
    case k1 => (try dsimp only); first | exact Nat.succ_ne_zero _ | omega | exact Nat.ne_of_gt (by omega)
    case k2 => (try dsimp only); first | exact Nat.succ_ne_zero _ | omega
    case k3 => (try dsimp only); first | exact Nat.ne_of_lt (Nat.lt_succ_self _) | omega
    intro t' k hk hl
    (try dsimp only at hk)
    (try dsimp only)
    iterate 12 (first | walk1 | (dsimp only; walk1))
    refine' rep ?k1 ?k2 ?k3 ?k4 ?k5 ?k6 ?k7 ?k8 ?_
    case k7 => exact rfl
    case k4 => assumption
    case k5 => decide
    case k6 => decide
    case k8 => omega
    case k1 => (try dsimp only); first | exact Nat.succ_ne_zero _ | omega | exact Nat.ne_of_gt (by omega)
    case k2 => (try dsimp only); first | exact Nat.succ_ne_zero _ | omega
    case k3 => (try dsimp only); first | exact Nat.ne_of_lt (Nat.lt_succ_self _) | omega
    intro t' k hk hl
    (try dsimp only at hk)
    (try dsimp only)
    iterate 12 (first | walk1 | (dsimp only; walk1))
    refine' rep ?k1 ?k2 ?k3 ?k4 ?k5 ?k6 ?k7 ?k8 ?_
    case k7 => exact rfl
    case k4 => assumption
    case k5 => decide
    case k6 => decide
    case k8 => omega
    case k1 => (try dsimp only); first | exact Nat.succ_ne_zero _ | omega | exact Nat.ne_of_gt (by omega)
    case k2 => (try dsimp only); first | exact Nat.succ_ne_zero _ | omega
    case k3 => (try dsimp only); first | exact Nat.ne_of_lt (Nat.lt_succ_self _) | omega
    intro t' k hk hl
    (try dsimp only at hk)
    (try dsimp only)
    iterate 18 (first | walk1 | (dsimp only; walk1))
    refine' rep ?k1 ?k2 ?k3 ?k4 ?k5 ?k6 ?k7 ?k8 ?_
    case k7 => exact rfl
    case k4 => assumption
    case k5 => decide
    case k6 => decide
    case k8 => omega
    case k1 => (try dsimp only); first | exact Nat.succ_ne_zero _ | omega | exact Nat.ne_of_gt (by omega)
    case k2 => (try dsimp only); first | exact Nat.succ_ne_zero _ | omega
    case k3 => (try dsimp only); first | exact Nat.ne_of_lt (Nat.lt_succ_self _) | omega
    intro t' k hk hl
    (try dsimp only at hk)
    (try dsimp only)
    iterate 12 (first | walk1 | (dsimp only; walk1))
    refine' rep ?k1 ?k2 ?k3 ?k4 ?k5 ?k6 ?k7 ?k8 ?_
    case k7 => exact rfl
    case k4 => assumption
    case k5 => decide
    case k6 => decide
    case k8 => omega
    case k1 => (try dsimp only); first | exact Nat.succ_ne_zero _ | omega | exact Nat.ne_of_gt (by omega)
    case k2 => (try dsimp only); first | exact Nat.succ_ne_zero _ | omega
    case k3 => (try dsimp only); first | exact Nat.ne_of_lt (Nat.lt_succ_self _) | omega
    intro t' k hk hl
    (try dsimp only at hk)
    (try dsimp only)
    k_steps
    rw [← esc5 v] at hret
    exact hret _ _ _ (by assumption) (by assumption)
end Mine
end
section
open PySem PySem.W PyProof.Rows
namespace Mine
def pcs : List Str := ["&", "<", ">", "\"", "'", ";", "a", "amp;", "lt;", "#x27;", "&gt;"].map Str.ofString
def pieceS (n : Int) : Str := if n.fmod 12 < 11 then pcs.getD (n.fmod 12).toNat Str.empty else
  ⟨#[(if (n.fdiv 12).fmod 1112064 < 55296 then (n.fdiv 12).fmod 1112064 else (n.fdiv 12).fmod 1112064 + 2048).toNat]⟩
theorem pcs_len (j : Nat) : (pcs.getD j Str.empty).length ≤ 6 := by
  rcases Nat.lt_or_ge j 11 with h | h
  · have : ∀ j : Fin 11, (pcs.getD j.1 Str.empty).length ≤ 6 := by decide
    exact this ⟨j, h⟩
  · rw [List.getD_eq_getElem?_getD, List.getElem?_eq_none (show pcs.length ≤ j from h)]; decide
def textS (ns : List Int) : Str := ns.foldl (fun tx n => tx ++ pieceS n) Str.empty
theorem pieceS_len (n : Int) : (pieceS n).length ≤ 6 := by
  unfold pieceS
  split
  · exact pcs_len _
  · show 1 ≤ 6
    decide
theorem textS_len (ns : List Int) : (textS ns).length ≤ 6 * ns.length := by
  have h : ∀ (ns : List Int) (tx : Str), (ns.foldl (fun tx n => tx ++ pieceS n) tx).length ≤ tx.length + 6 * ns.length := by
    intro ns
    induction ns with
    | nil => intro tx; simp
    | cons a r ih =>
      intro tx
      have h1 := ih (tx ++ pieceS a)
      have h2 : (tx ++ pieceS a).length = tx.length + (pieceS a).length := by show (tx.cps ++ (pieceS a).cps).size = _; rw [Array.size_append]; rfl
      have h3 := pieceS_len a
      rw [List.foldl_cons, List.length_cons]
      omega
  have := h ns Str.empty
  have e : Str.empty.length = 0 := rfl
  unfold textS
  omega
local macro_rules | `(tactic| ktr_rel) => `(tactic| repeat' (first | (k_unfold; (try dsimp only)) | walk1 | (dsimp only; walk1) | (leave1; try dsimp only) | fail "no step"))
local macro_rules | `(tactic| walk_at "pyIter ref") => `(tactic| refine unhold ?_)
local macro_rules | `(tactic| walk_at "pyIter str") => `(tactic| refine unhold ?_)
local macro_rules | `(tactic| walk_at "exec For Name Call cons nil") => `(tactic| (k_here; (rename Fr _ _ _ _ => lF'); k_dflt (refine forV lF' (by rfl) (by rfl) (by passes_own) (by intro _; rfl) ?_)))
local macro_rules | `(tactic| walk_at "exec For Name Name cons nil") => `(tactic| (k_here; (rename Fr _ _ _ _ => lF'); k_dflt (refine forV lF' (by rfl) (by rfl) (by passes_own) (by intro _; rfl) ?_)))
theorem text_c {w mean mg mb rest} (ln : Addr) (vs : List Value) (ns : List Int) (n : Nat) (hi : IntsAre vs ns) : Claim 2 w mean mg mb 29 ((ln, W.listOf vs.toArray n) :: rest) (ns.length ≤ 100) [.ref ln] (fun base h₀ L m s Q =>
     ∀ t h' tk', Fr h₀ L h' m → News h₀ L h' ((ln, W.listOf vs.toArray n) :: rest) → Q (.str (textS ns) t) {s with heap := h', toks := tk'}) := by
  dsimp only [Claim, PG, KF, VW, LS]; k_fill; intros; rename_i hret
  rename (ns.length ≤ 100) => hlen
  refine wpAny_call ?_
  k_dflt cell_enter
  ktr_rel
  refine hold ?_
  rename IntsAre _ _ => hi
  rename Fr _ _ _ _ => FP
  rename News _ _ _ _ => NP
  refine iterL (l := ln) (vs := vs) (J := fun i m news => ∃ lp tvs t, StrsAre tvs pcs ∧ m (Str.ofString "text") = some (.str (textS (ns.take i)) t) ∧ m (Str.ofString "pieces") = some (.ref lp) ∧ news = (lp, seqObj "tuple" tvs.toArray 0) :: (ln, W.listOf vs.toArray n) :: rest) rfl (isListN NP (List.Mem.tail _ (List.Mem.head _))) (NP _ (List.Mem.tail _ (List.Mem.head _))).2.1 FP NP ?_ ?_ ?_
  · refine ⟨_, _, _, ?_, rfl, rfl, rfl⟩
    repeat' constructor
  · clear FP NP
    rintro i _ m₁ _ h tk own I hv ⟨lp, tvs, t, htv, h1, h2, rfl⟩ hoff hown hI FP NP
    obtain ⟨k, hk⟩ : ∃ k, ns[i]? = some k := by
      have h3 := hi.length
      have h4 : i < vs.length := by
        rcases Nat.lt_or_ge i vs.length with h | h
        · exact h
        · rw [List.getElem?_eq_none h] at hv; cases hv
      exact ⟨ns[i]'(by omega), by simp⟩
    obtain ⟨u, hu⟩ := hi.get i k hk
    rw [hu] at hv
    cases hv
    replace FP := frN FP (a := Str.ofString "pieces") (v := .ref lp) (by rw [if_neg (by decide)]; exact h2)
    replace FP := frN FP (a := Str.ofString "text") (v := .str (textS (ns.take i)) t) (by rw [if_neg (by decide), if_neg (by decide)]; exact h1)
    have hL : (textS (ns.take i)).length ≤ 600 := by
      have := textS_len (ns.take i)
      have h5 : (ns.take i).length ≤ ns.length := by simp; omega
      omega
    have hnx : textS (ns.take (i + 1)) = textS (ns.take i) ++ pieceS k := by rw [List.take_succ, hk]; simp [textS]
    k_steps
    · refine' item_strsTu (ys := pcs) (l := tvs) ?k1 htv ?k2 ?k3 ?k4 ?_ ?k5 ?k6
      case k5 => with_unfolding_all rfl
      case k6 => intro _; with_unfolding_all rfl
      case k1 => exact isTupN NP (List.Mem.head _)
      case k2 => rw [Int.fmod_eq_emod_of_nonneg _ (by decide)]; omega
      case k3 => assumption
      case k4 => have := Int.fmod_lt_of_pos k (show (0 : Int) < 12 by decide); omega
      intro t2
      refine SB.iadd (fun t3 k3 => ?_) (by have := pcs_len (k.fmod 12).toNat; show _ ≤ 2 ^ 24; omega)
      try dsimp only
      k_steps
      refine' tp_next (news' := (lp, seqObj "tuple" tvs.toArray 0) :: (ln, W.listOf vs.toArray n) :: rest) (by assumption) (by assumption) hoff ⟨lp, tvs, _, htv, ?g1, ?g2, rfl⟩
      case g1 => rw [hnx, show pieceS k = pcs.getD (k.fmod 12).toNat Str.empty from if_pos (by assumption)]; exact rfl
      case g2 => exact rfl
    · refine' tp_next (news' := (lp, seqObj "tuple" tvs.toArray 0) :: (ln, W.listOf vs.toArray n) :: rest) (by assumption) (by assumption) hoff ⟨lp, tvs, _, htv, ?g1, ?g2, rfl⟩
      case g1 => rw [hnx, show pieceS k = ⟨#[((k.fdiv 12).fmod 1112064).toNat]⟩ from by unfold pieceS; rw [if_neg (by assumption), if_pos (by assumption)]]; exact rfl
      case g2 => exact rfl
    · refine' tp_next (news' := (lp, seqObj "tuple" tvs.toArray 0) :: (ln, W.listOf vs.toArray n) :: rest) (by assumption) (by assumption) hoff ⟨lp, tvs, _, htv, ?g1, ?g2, rfl⟩
      case g1 => rw [hnx, show pieceS k = ⟨#[((k.fdiv 12).fmod 1112064 + 2048).toNat]⟩ from by unfold pieceS; rw [if_neg (by assumption), if_neg (by assumption)]]; exact rfl
      case g2 => exact rfl
  · clear FP NP
    rintro m₁ _ h tk ⟨lp, tvs, t, htv, h1, h2, rfl⟩ FP NP
    rw [show ns.take vs.length = ns by rw [hi.length]; simp] at h1
    replace FP := frN FP (a := Str.ofString "text") (v := .str (textS ns) t) h1
    try dsimp only
    k_steps
    rename Fr _ _ _ _ => FP
    rename News _ _ _ _ => NP
    exact hret _ _ _ FP (fun p hp => NP p (List.Mem.tail _ hp))
end Mine
end
section
open PySem PySem.W PyProof.Rows PyProof.Rows.LSm
namespace Mine
section
local macro_rules | `(tactic| cell_enter) => `(tactic| first | (refine' code_defC ?k1 ?k2 ?k3 ?k4 ?k5 ?kA ?kF ?kK ?k6 ?k7 ?k8 ?k9 ?kB ?kD ?_ ?c2 ?c3 ?c4; (case kA => exact rfl); (case kF => exact rfl); (case kK => assumption); (case k1 => k_asm); (case k2 => k_asm); (case k3 => k_asm); (case k4 => k_asm); (case k5 => k_asm); (case k6 => k_is); (case k7 => k_is); (case k8 => ktr_room); (case k9 => exact BindsTo.of_eq rfl); (case kB => exact rfl); (case kD => decide +kernel); (case c2 => exact rfl); (case c3 => exact rfl); (case c4 => exact rfl); k_whole; intro g' L' h' tk' cells' FG' F' N' Y' B' X' T' l1; (try k_lt l1); k_cells Y'; (try simp only [List.cons_append, List.nil_append] at N'); (try dsimp only); (try k_lift B'); (try k_fold)) | (refine' code_def ?k1 ?k2 ?k3 ?k4 ?k5 ?kA ?kF ?kK ?k6 ?k7 ?k8 ?k9 ?kB ?_ ?c2 ?c3 ?c4 ?c5; (case kA => exact rfl); (case kF => exact rfl); (case kK => assumption); (case k1 => k_asm); (case k2 => k_asm); (case k3 => k_asm); (case k4 => k_asm); (case k5 => k_asm); (case k6 => k_is); (case k7 => k_is); (case k8 => ktr_room); (case k9 => first | exact BindsTo.of_eq rfl | exact binds_K (by k_in) rfl (by k_is) rfl rfl rfl); (case c5 => decide); (case kB => exact locs rfl); (case c2 => exact rfl); (case c3 => exact rfl); (case c4 => exact rfl); k_whole; intro g' L' h' FG' F' N' B' X' T'; (try dsimp only); (try k_lift B'); (try k_fold)))
local macro_rules | `(tactic| ktr_rel) => `(tactic| repeat' (first | (k_unfold; (try dsimp only)) | walk1 | (dsimp only; walk1) | (leave1; try dsimp only) | fail "no step"))
local macro_rules | `(tactic| ktr_call $c $d) => `(tactic| (refine hold ?_; refine' $c _ _ _ _ _ _ _ _ _ _ _ _ _ _ _ _ _ ?k1 ?k2 ?k3 ?k4 ?k5 ?kK ?kp ?kd ?ku ?kR; (case k1 => k_asm); (case k2 => k_asm); (case k3 => k_asm); (case k4 => first | k_asm | (refine' news_cons ?kN ?km; (case kN => k_asm); (case km => k_mem)) | (refine' news_cons2 ?kN ?km ?kl; (case kN => k_asm); (case km => k_mem); (case kl => k_mem))); (case k5 => k_asm); (case kK => exact rfl); (case kp => exact $d); (case kd => ktr_room); (case ku => ktr_units)))
local macro_rules | `(tactic| walk_at "call ref") => `(tactic| refine unhold ?_)
local macro_rules | `(tactic| walk_at "pyIter ref") => `(tactic| refine unhold ?_)
local macro_rules | `(tactic| walk_at "CompEnd") => `(tactic| refine unhold ?_)
local macro_rules | `(tactic| walk_at "exec For Name Call cons nil") => `(tactic| (k_here; (rename Fr _ _ _ _ => lF'); k_dflt (refine forV lF' (by rfl) (by rfl) (by passes_own) (by intro _; rfl) ?_)))
local macro_rules | `(tactic| walk_at "exec For Name Name cons nil") => `(tactic| (k_here; (rename Fr _ _ _ _ => lF'); k_dflt (refine forV lF' (by rfl) (by rfl) (by passes_own) (by intro _; rfl) ?_)))
local macro_rules | `(tactic| walk_at "exec For Name Subscript cons nil") => `(tactic| (k_here; (rename Fr _ _ _ _ => lF'); k_dflt (refine forV lF' (by rfl) (by rfl) (by passes_own) (by intro _; rfl) ?_)))
local macro_rules | `(tactic| walk_at "call builtin:len") => `(tactic| (k_here; k_dflt (refine' len_N ?k1 ?k2 ?_; (case k1 => is_list); (case k2 => omega))))
local macro_rules | `(tactic| walk_at "call type:range") => `(tactic| ((rename Fr _ _ _ _ => F'); (rename News _ _ _ _ => N'); (with_unfolding_all refine range1_rows F' N' ?_; intro _ _ _ _ _ _ _ _ _)))
local macro_rules | `(tactic| walk_at "CompSrc") => `(tactic| (k_here; k_dflt (refine' LCg.CompSrc.range ?k1 ?k2 ?k3 ?k4 ?k5 ?k6 ?k7 ?_; (case k1 => rfl); (case k2 => k_asm); (case k3 => k_asm); (case k4 => assumption); (case k5 => first | exact small_one (by omega) (by omega) (by omega) (by omega) | decide); (case k6 => first | exact rangeSize_nat _ _ | rfl); (case k7 => (rw [PySem.sizeLine_eq]; omega))); intro g'; refine unhold ?_))
local macro_rules | `(tactic| walk_at "subscriptTail Name Slice ref ref") => `(tactic| (k_here; k_dflt (first
  | (refine' slV_up ?F ?N ?m ?p ?h0 ?z ?_ ?s ?t; (case F => k_asm); (case N => k_asm); (case m => k_mem); (case p => kmk_part); (case h0 => first | omega | decide); (case z => first | omega | exact Nat.le_of_ble_eq_true rfl); (case s => with_unfolding_all rfl); (case t => kmk_pure))
  | (refine' slV_from ?F ?N ?m ?p ?h0 ?z ?_ ?s ?t; (case F => k_asm); (case N => k_asm); (case m => k_mem); (case p => kmk_part); (case h0 => first | omega | decide); (case z => first | omega | exact Nat.le_of_ble_eq_true rfl); (case s => with_unfolding_all rfl); (case t => kmk_pure))); intro D' h' F' N' l1; (try k_lt l1); (try k_sweep)))
local macro_rules | `(tactic| walk_at "subscriptTail Name Name ref int") => `(tactic| (k_here; k_dflt (refine' item_N ?l ?b ?x ?_ ?s ?g; (case x => assumption); (case l => (rename News _ _ _ _ => hNN; exact isListN hNN (by k_mem))); (case b => omega); (case s => with_unfolding_all rfl); (case g => (intro _; with_unfolding_all rfl)))))
local macro_rules | `(tactic| walk_at "subscriptTail Name Constant ref int") => `(tactic| (k_here; k_dflt (refine' item_C ?l ?a ?b ?x ?_ ?s ?g; (case x => assumption); (case l => (rename News _ _ _ _ => hNN; exact isListN hNN (by k_mem))); (case a => decide); (case b => decide); (case s => with_unfolding_all rfl); (case g => (intro _; with_unfolding_all rfl)))))
local macro_rules | `(tactic| k_updF) => `(tactic| first | (refine' UpdF.head ?a; (case a => first | exact allNe1 (by assumption) | exact allLt_ne1 (by assumption) | exact allLt_ne (by assumption))) | (refine' UpdF.tail ?a ?b; (case a => first | assumption | k_ne); (case b => k_updF)))
local macro_rules | `(tactic| walk_at "pyIter str") => `(tactic| refine unhold ?_)
local macro_rules | `(tactic| walk_at "CompSrc Name") => `(tactic| refine unhold ?_)
local macro_rules | `(tactic| walk_at "eval ListComp") => `(tactic| (k_here; refine unhold ?_))
def tokS (q : Bool) (c : Nat) : Str := ⟨(tok q c).toArray⟩
def spq (q : Bool) (c : Nat) : Bool := decide (c = 38 ∨ c = 60 ∨ c = 62 ∨ (q = true ∧ (c = 34 ∨ c = 39)))
def TokAre (q : Bool) (kvs : List (Str × Value)) : Prop := ∀ c, (spq q c = true → ∃ t, valueAt kvs ⟨#[c]⟩ = some (.str (tokS q c) t)) ∧ (spq q c = false → valueAt kvs ⟨#[c]⟩ = none ∧ tokS q c = ⟨#[c]⟩)
theorem va_ne {c k : Nat} (v : Value) (r : List (Str × Value)) (h : c ≠ k) : valueAt ((⟨#[k]⟩, v) :: r) ⟨#[c]⟩ = valueAt r ⟨#[c]⟩ := by
  have : decide ((⟨#[k]⟩ : Str) = ⟨#[c]⟩) = false := decide_eq_false fun e => h (by simpa using e.symm)
  unfold valueAt; rw [List.find?_cons]; simp only [this]
theorem tok_ff {q : Bool} (hq : q = false) (t1 t2 t3 : Tok) : TokAre q [((⟨#[38]⟩ : Str), (Value.str ⟨#[38, 97, 109, 112, 59]⟩ t1)), (⟨#[60]⟩, .str ⟨#[38, 108, 116, 59]⟩ t2), (⟨#[62]⟩, .str ⟨#[38, 103, 116, 59]⟩ t3)] := by
  subst hq
  intro c
  constructor
  · intro h
    have h := of_decide_eq_true h
    simp only [Bool.false_eq_true, false_and, or_false] at h
    rcases h with rfl | rfl | rfl <;> exact ⟨_, rfl⟩
  · intro h
    have h := of_decide_eq_false h
    simp only [Bool.false_eq_true, false_and, or_false] at h
    rw [va_ne _ _ (by omega), va_ne _ _ (by omega), va_ne _ _ (by omega)]
    refine ⟨rfl, ?_⟩
    unfold tokS tok
    rw [if_neg (by omega), if_neg (by omega), if_neg (by omega), if_neg (by simp), if_neg (by simp)]
theorem tok_tt {q : Bool} (hq : q = true) (t1 t2 t3 t4 t5 : Tok) : TokAre q [((⟨#[38]⟩ : Str), (Value.str ⟨#[38, 97, 109, 112, 59]⟩ t1)), (⟨#[60]⟩, .str ⟨#[38, 108, 116, 59]⟩ t2), (⟨#[62]⟩, .str ⟨#[38, 103, 116, 59]⟩ t3), (⟨#[34]⟩, .str ⟨#[38, 113, 117, 111, 116, 59]⟩ t4), (⟨#[39]⟩, .str ⟨#[38, 35, 120, 50, 55, 59]⟩ t5)] := by
  subst hq
  intro c
  constructor
  · intro h
    have h := of_decide_eq_true h
    simp only [true_and] at h
    rcases h with rfl | rfl | rfl | rfl | rfl <;> exact ⟨_, rfl⟩
  · intro h
    have h := of_decide_eq_false h
    simp only [true_and] at h
    rw [va_ne _ _ (by omega), va_ne _ _ (by omega), va_ne _ _ (by omega), va_ne _ _ (by omega), va_ne _ _ (by omega)]
    refine ⟨rfl, ?_⟩
    unfold tokS tok
    rw [if_neg (by omega), if_neg (by omega), if_neg (by omega), if_neg (by omega), if_neg (by omega)]
theorem off1_ne {D : Addr} : ∀ {l : List (Addr × Obj)}, LCg.Off1 D l → ∀ p ∈ l, p.1 ≠ D
  | [], _ => fun _ h => nomatch h
  | p :: r, h => fun q hq => by
    rcases List.mem_cons.mp hq with e | hq
    · subst e; exact h.1
    · exact off1_ne h.2 q hq
theorem get_tok {q : Bool} {kvs : List (Str × Value)} (h : TokAre q kvs) (c : Nat) (u : Tok) : ∃ t, (valueAt kvs ⟨#[c]⟩).getD (.str ⟨#[c]⟩ u) = .str (tokS q c) t := by
  cases e : spq q c with
  | true => obtain ⟨t, ht⟩ := (h c).1 e; exact ⟨t, by rw [ht]; rfl⟩
  | false => obtain ⟨h1, h2⟩ := (h c).2 e; exact ⟨u, by rw [h1, h2]; rfl⟩
theorem strs_ofL : ∀ {ys : List Value} {l : List Str}, ys.length = l.length → (∀ (i : Nat) y, ys[i]? = some y → ∃ x t, l[i]? = some x ∧ y = Value.str x t) → StrsAre ys l
  | [], [], _, _ => .nil
  | [], _ :: _, h, _ => by simp at h
  | _ :: _, [], h, _ => by simp at h
  | y :: r, a :: l, h, hy => by
    obtain ⟨x, t, e1, e2⟩ := hy 0 y rfl
    have e1 : a = x := by simpa using e1
    subst e1
    rw [e2]
    exact .cons _ t (strs_ofL (by simpa using h) fun i y' h' => by simpa using hy (i + 1) y' (by simpa using h'))
local macro_rules | `(tactic| walk_at "call builtin:dict.get") => `(tactic| refine unhold ?_)
local macro_rules | `(tactic| walk_at "getMethod ref") => `(tactic| (k_here; k_dflt (refine kdg_method (knd := PySem.strKind _ _) (by k_asm) (by k_mem) (by k_asm) ?_)))
theorem parts_c {w mean mg mb news} (v : Str) (t : Tok) (q : Bool) : Claim 4 w mean mg mb 34 news (v.length ≤ 900) [.str v t, .bool q] (fun _ h₀ L m s Q =>
     ∀ l h' tk' vs n', StrsAre vs (v.cps.toList.map (tokS q)) → (∀ p ∈ news, p.1 ≠ l) → Fr h₀ L h' m → News h₀ L h' ((l, W.listOf vs.toArray n') :: news) → Q (.ref l) {s with heap := h', toks := tk'}) := by
  dsimp only [Claim, PG, KF, VW, LS]; k_fill; intros; rename_i hret
  rename (v.length ≤ 900) => hv
  refine wpAny_call ?_
  k_dflt cell_enter
  ktr_rel
  all_goals
    rename ((_ == sysModules) = false) => hsys
    first
      | (rename (q = true) => hq
         obtain ⟨kvs, hkvs, hD⟩ : ∃ kvs, TokAre q kvs ∧ Obj.IsDictOf (PySem.strKind Challenge.rw_mg0011_01.row.prog w) _ kvs := ⟨_, tok_tt hq _ _ _ _ _, by assumption⟩)
      | (rename (q = false) => hq
         obtain ⟨kvs, hkvs, hD⟩ : ∃ kvs, TokAre q kvs ∧ Obj.IsDictOf (PySem.strKind Challenge.rw_mg0011_01.row.prog w) _ kvs := ⟨_, tok_ff hq _ _ _, by assumption⟩)
    refine hold ?_
    refine ListComp_T (F₀ := by k_asm) (by with_unfolding_all rfl) (by decide) (by rfl) (by decide) (by rfl) ?_
    ktr_rel
    refine TextSrc.intro rfl (by k_asm) (by k_asm) (Nat.le_trans hv (by decide)) ?_
    intro g9
    refine compG (G := fun i y => ∃ x t, (v.cps.toList.map (tokS q))[i]? = some x ∧ y = .str x t) ?_ ?_
    · rintro i _ I oI C oC D m₂ ys h tk E' hi ⟨c, u, hc, rfl⟩ hC hx F N off ne
      simp only [LCg.Off3] at off
      obtain ⟨t5, ht5⟩ := get_tok hkvs c u
      ktr_rel
      refine hold ?_
      refine kdg_get2 (knd := PySem.strKind _ _) (by k_asm) (by k_mem) hD hsys (strKind_is _ _ _ _) (valueAt kvs ⟨#[c]⟩) rfl ?_
      rw [ht5]
      try dsimp only
      ktr_rel
      refine hold ?_
      refine LCg.CompEnd.intro (by k_asm) (by k_asm) _ (by kcf_all) (by first | assumption | (simp only [LCg.Off3, and_true]; done) | (simp only [LCg.Off3, and_true]; assumption)) True.intro ⟨rfl, _, t5, ?_, rfl⟩
      have hc' : v.cps.toList[i]? = some c := by simpa using hc
      rw [List.getElem?_map, hc']; rfl
    · intro ys hlen hys
      have hS := strs_ofL (by rw [List.length_map]; exact hlen) hys
      ktr_rel
      rename News _ _ _ _ => N9
      rename (_ ∧ _ ∧ LCg.Off1 _ news) => hoff1
      refine hret _ _ _ _ ys.length hS (off1_ne hoff1.2.2) (by assumption) (news_sub N9 ?_)
      intro p hp
      rcases List.mem_cons.mp hp with e | hp
      · rw [e]; exact List.Mem.head _
      · repeat (first | exact hp | apply List.Mem.tail)
end
end Mine
end
section
open PySem PySem.W PyProof.Rows PyProof.Rows.LSm
namespace Mine
section
local macro_rules | `(tactic| cell_enter) => `(tactic| first | (refine' code_defC ?k1 ?k2 ?k3 ?k4 ?k5 ?kA ?kF ?kK ?k6 ?k7 ?k8 ?k9 ?kB ?kD ?_ ?c2 ?c3 ?c4; (case kA => exact rfl); (case kF => exact rfl); (case kK => assumption); (case k1 => k_asm); (case k2 => k_asm); (case k3 => k_asm); (case k4 => k_asm); (case k5 => k_asm); (case k6 => k_is); (case k7 => k_is); (case k8 => ktr_room); (case k9 => exact BindsTo.of_eq rfl); (case kB => exact rfl); (case kD => decide +kernel); (case c2 => exact rfl); (case c3 => exact rfl); (case c4 => exact rfl); k_whole; intro g' L' h' tk' cells' FG' F' N' Y' B' X' T' l1; (try k_lt l1); k_cells Y'; (try simp only [List.cons_append, List.nil_append] at N'); (try dsimp only); (try k_lift B'); (try k_fold)) | (refine' code_def ?k1 ?k2 ?k3 ?k4 ?k5 ?kA ?kF ?kK ?k6 ?k7 ?k8 ?k9 ?kB ?_ ?c2 ?c3 ?c4 ?c5; (case kA => exact rfl); (case kF => exact rfl); (case kK => assumption); (case k1 => k_asm); (case k2 => k_asm); (case k3 => k_asm); (case k4 => k_asm); (case k5 => k_asm); (case k6 => k_is); (case k7 => k_is); (case k8 => ktr_room); (case k9 => first | exact BindsTo.of_eq rfl | exact binds_K (by k_in) rfl (by k_is) rfl rfl rfl); (case c5 => decide); (case kB => exact locs rfl); (case c2 => exact rfl); (case c3 => exact rfl); (case c4 => exact rfl); k_whole; intro g' L' h' FG' F' N' B' X' T'; (try dsimp only); (try k_lift B'); (try k_fold)))
local macro_rules | `(tactic| ktr_rel) => `(tactic| repeat' (first | (k_unfold; (try dsimp only)) | walk1 | (dsimp only; walk1) | (leave1; try dsimp only) | fail "no step"))
local macro_rules | `(tactic| ktr_call $c $d) => `(tactic| (refine hold ?_; refine' $c _ _ _ _ _ _ _ _ _ _ _ _ _ _ _ _ _ ?k1 ?k2 ?k3 ?k4 ?k5 ?kK ?kp ?kd ?ku ?kR; (case k1 => k_asm); (case k2 => k_asm); (case k3 => k_asm); (case k4 => first | k_asm | (refine' news_cons ?kN ?km; (case kN => k_asm); (case km => k_mem)) | (refine' news_cons2 ?kN ?km ?kl; (case kN => k_asm); (case km => k_mem); (case kl => k_mem))); (case k5 => k_asm); (case kK => exact rfl); (case kp => exact $d); (case kd => ktr_room); (case ku => ktr_units)))
local macro_rules | `(tactic| walk_at "call ref") => `(tactic| refine unhold ?_)
local macro_rules | `(tactic| walk_at "pyIter ref") => `(tactic| refine unhold ?_)
local macro_rules | `(tactic| walk_at "CompEnd") => `(tactic| refine unhold ?_)
local macro_rules | `(tactic| walk_at "exec For Name Call cons nil") => `(tactic| (k_here; (rename Fr _ _ _ _ => lF'); k_dflt (refine forV lF' (by rfl) (by rfl) (by passes_own) (by intro _; rfl) ?_)))
local macro_rules | `(tactic| walk_at "exec For Name Name cons nil") => `(tactic| (k_here; (rename Fr _ _ _ _ => lF'); k_dflt (refine forV lF' (by rfl) (by rfl) (by passes_own) (by intro _; rfl) ?_)))
local macro_rules | `(tactic| walk_at "exec For Name Subscript cons nil") => `(tactic| (k_here; (rename Fr _ _ _ _ => lF'); k_dflt (refine forV lF' (by rfl) (by rfl) (by passes_own) (by intro _; rfl) ?_)))
local macro_rules | `(tactic| walk_at "call builtin:len") => `(tactic| (k_here; k_dflt (refine' len_N ?k1 ?k2 ?_; (case k1 => is_list); (case k2 => omega))))
local macro_rules | `(tactic| walk_at "call type:range") => `(tactic| ((rename Fr _ _ _ _ => F'); (rename News _ _ _ _ => N'); (with_unfolding_all refine range1_rows F' N' ?_; intro _ _ _ _ _ _ _ _ _)))
local macro_rules | `(tactic| walk_at "CompSrc") => `(tactic| (k_here; k_dflt (refine' LCg.CompSrc.range ?k1 ?k2 ?k3 ?k4 ?k5 ?k6 ?k7 ?_; (case k1 => rfl); (case k2 => k_asm); (case k3 => k_asm); (case k4 => assumption); (case k5 => first | exact small_one (by omega) (by omega) (by omega) (by omega) | decide); (case k6 => first | exact rangeSize_nat _ _ | rfl); (case k7 => (rw [PySem.sizeLine_eq]; omega))); intro g'; refine unhold ?_))
local macro_rules | `(tactic| walk_at "subscriptTail Name Slice ref ref") => `(tactic| (k_here; k_dflt (first
  | (refine' slV_up ?F ?N ?m ?p ?h0 ?z ?_ ?s ?t; (case F => k_asm); (case N => k_asm); (case m => k_mem); (case p => kmk_part); (case h0 => first | omega | decide); (case z => first | omega | exact Nat.le_of_ble_eq_true rfl); (case s => with_unfolding_all rfl); (case t => kmk_pure))
  | (refine' slV_from ?F ?N ?m ?p ?h0 ?z ?_ ?s ?t; (case F => k_asm); (case N => k_asm); (case m => k_mem); (case p => kmk_part); (case h0 => first | omega | decide); (case z => first | omega | exact Nat.le_of_ble_eq_true rfl); (case s => with_unfolding_all rfl); (case t => kmk_pure))); intro D' h' F' N' l1; (try k_lt l1); (try k_sweep)))
local macro_rules | `(tactic| walk_at "subscriptTail Name Name ref int") => `(tactic| (k_here; k_dflt (refine' item_N ?l ?b ?x ?_ ?s ?g; (case x => assumption); (case l => (rename News _ _ _ _ => hNN; exact isListN hNN (by k_mem))); (case b => omega); (case s => with_unfolding_all rfl); (case g => (intro _; with_unfolding_all rfl)))))
local macro_rules | `(tactic| walk_at "subscriptTail Name Constant ref int") => `(tactic| (k_here; k_dflt (refine' item_C ?l ?a ?b ?x ?_ ?s ?g; (case x => assumption); (case l => (rename News _ _ _ _ => hNN; exact isListN hNN (by k_mem))); (case a => decide); (case b => decide); (case s => with_unfolding_all rfl); (case g => (intro _; with_unfolding_all rfl)))))
local macro_rules | `(tactic| k_updF) => `(tactic| first | (refine' UpdF.head ?a; (case a => first | exact allNe1 (by assumption) | exact allLt_ne1 (by assumption) | exact allLt_ne (by assumption))) | (refine' UpdF.tail ?a ?b; (case a => first | assumption | k_ne); (case b => k_updF)))
local macro_rules | `(tactic| walk_at "pyIter str") => `(tactic| refine unhold ?_)
local macro_rules | `(tactic| walk_at "CompSrc Name") => `(tactic| refine unhold ?_)
local macro_rules | `(tactic| walk_at "eval ListComp") => `(tactic| (k_here; refine unhold ?_))
theorem join_cnt (c : Nat) : ∀ ps : List Str, ps.length ≤ (Str.join ⟨#[c]⟩ ps).length + 1
  | [] => Nat.zero_le _
  | [p] => by simp
  | p :: q :: r => by
    have ih := join_cnt c (q :: r)
    have e : (Str.join ⟨#[c]⟩ (p :: q :: r)).length = p.length + 1 + (Str.join ⟨#[c]⟩ (q :: r)).length := by
      show (p ++ ⟨#[c]⟩ ++ Str.join ⟨#[c]⟩ (q :: r)).length = _
      rw [Str.length_append, Str.length_append]; rfl
    rw [e]; simp only [List.length_cons] at ih ⊢; omega
theorem split_cnt (v : Str) (c : Nat) : (Txt.split v ⟨#[c]⟩).length ≤ v.length + 1 := by
  have := join_cnt c (Txt.split v ⟨#[c]⟩)
  rw [StrLaws.join_split] at this
  exact this
theorem strs_take : ∀ {vs : List Value} {ns : List Str} (k : Nat), StrsAre vs ns → StrsAre (vs.take k) (ns.take k)
  | _, _, 0, _ => by simpa using StrsAre.nil
  | _, _, k + 1, .nil => .nil
  | _, _, k + 1, .cons a t r => by simpa using .cons a t (strs_take k r)
theorem strs_drop : ∀ {vs : List Value} {ns : List Str} (k : Nat), StrsAre vs ns → StrsAre (vs.drop k) (ns.drop k)
  | _, _, 0, h => h
  | _, _, k + 1, .nil => .nil
  | _, _, k + 1, .cons a t r => by simpa using strs_drop k r
theorem news_rd {h₀ h : Heap} {L : Addr} {a b c : Addr × Obj} {r : List (Addr × Obj)} (N : News h₀ L h (a :: b :: c :: r)) : News h₀ L h (b :: a :: r) := fun p hp => by
  refine N p ?_
  rcases List.mem_cons.mp hp with e | hp
  · rw [e]; exact List.Mem.tail _ (List.Mem.head _)
  rcases List.mem_cons.mp hp with e | hp
  · rw [e]; exact List.Mem.head _
  · exact List.Mem.tail _ (List.Mem.tail _ (List.Mem.tail _ hp))
theorem pick3 {h₀ h : Heap} {L : Addr} {a b c : Addr} {oa ob oc : Obj} {r : List (Addr × Obj)} (_N : News h₀ L h ((a, oa) :: (b, ob) :: (c, oc) :: r)) : ∃ x y z oz, x = a ∧ y = b ∧ z = c ∧ oz = oc := ⟨_, _, _, _, rfl, rfl, rfl, rfl⟩
def namT : List (Str × Str) := [("amp;", "&"), ("lt;", "<"), ("gt;", ">"), ("quot;", "\""), ("#x27;", "'")].map fun p => (Str.ofString p.1, Str.ofString p.2)
def NamAre (kvs : List (Str × Value)) : Prop := ∀ k, (∃ t y, (namT.lookup k) = some y ∧ valueAt kvs k = some (.str y t)) ∨ (namT.lookup k = none ∧ valueAt kvs k = none)
theorem nam_are (t1 t2 t3 t4 t5 : Tok) : NamAre [(Str.ofString "amp;", .str (Str.ofString "&") t1), (Str.ofString "lt;", .str (Str.ofString "<") t2), (Str.ofString "gt;", .str (Str.ofString ">") t3), (Str.ofString "quot;", .str (Str.ofString "\"") t4), (Str.ofString "#x27;", .str (Str.ofString "'") t5)] := by
  intro k
  have hne : ∀ (a : Str) (v : Value) (r : List (Str × Value)), ¬ k = a → valueAt ((a, v) :: r) k = valueAt r k := fun a v r h => by
    have : decide (a = k) = false := decide_eq_false fun e => h e.symm
    unfold valueAt; rw [List.find?_cons]; simp only [this]
  have heq : ∀ (a : Str) (v : Value) (r : List (Str × Value)), k = a → valueAt ((a, v) :: r) k = some v := fun a v r h => by
    have : decide (a = k) = true := decide_eq_true h.symm
    unfold valueAt; rw [List.find?_cons]; simp only [this]; rfl
  have lne : ∀ (a b : Str) (r : List (Str × Str)), ¬ k = a → List.lookup k ((a, b) :: r) = List.lookup k r := fun a b r h => by
    rw [List.lookup_cons, beq_eq_false_iff_ne.mpr h]
  have leq : ∀ (a b : Str) (r : List (Str × Str)), k = a → List.lookup k ((a, b) :: r) = some b := fun a b r h => by
    rw [List.lookup_cons, beq_iff_eq.mpr h]
  show (∃ t y, List.lookup k [(Str.ofString "amp;", Str.ofString "&"), (Str.ofString "lt;", Str.ofString "<"), (Str.ofString "gt;", Str.ofString ">"), (Str.ofString "quot;", Str.ofString "\""), (Str.ofString "#x27;", Str.ofString "'")] = some y ∧ _) ∨ (List.lookup k [(Str.ofString "amp;", Str.ofString "&"), (Str.ofString "lt;", Str.ofString "<"), (Str.ofString "gt;", Str.ofString ">"), (Str.ofString "quot;", Str.ofString "\""), (Str.ofString "#x27;", Str.ofString "'")] = none ∧ _)
  by_cases h1 : k = Str.ofString "amp;"
  · left; exact ⟨_, _, leq _ _ _ h1, heq _ _ _ h1⟩
  rw [lne _ _ _ h1, hne _ _ _ h1]
  by_cases h2 : k = Str.ofString "lt;"
  · left; exact ⟨_, _, leq _ _ _ h2, heq _ _ _ h2⟩
  rw [lne _ _ _ h2, hne _ _ _ h2]
  by_cases h3 : k = Str.ofString "gt;"
  · left; exact ⟨_, _, leq _ _ _ h3, heq _ _ _ h3⟩
  rw [lne _ _ _ h3, hne _ _ _ h3]
  by_cases h4 : k = Str.ofString "quot;"
  · left; exact ⟨_, _, leq _ _ _ h4, heq _ _ _ h4⟩
  rw [lne _ _ _ h4, hne _ _ _ h4]
  by_cases h5 : k = Str.ofString "#x27;"
  · left; exact ⟨_, _, leq _ _ _ h5, heq _ _ _ h5⟩
  rw [lne _ _ _ h5, hne _ _ _ h5]
  right; exact ⟨rfl, rfl⟩
def nmS (p : Str) : Str := Txt.slice p none (some (Txt.find p (Str.ofString ";") + 1))
def baS (p : Str) : Str := (namT.lookup (nmS p)).getD (Str.ofString "&" ++ nmS p)
def rdS (p : Str) : Str := baS p ++ Txt.slice p (some ((nmS p).length : Nat)) none
theorem get_nam {kvs : List (Str × Value)} (h : NamAre kvs) (p : Str) (u : Tok) : ∃ t, (valueAt kvs (nmS p)).getD (.str (Str.ofString "&" ++ nmS p) u) = .str (baS p) t := by
  unfold baS
  rcases h (nmS p) with ⟨t, y, h1, h2⟩ | ⟨h1, h2⟩
  · exact ⟨t, by rw [h1, h2]; rfl⟩
  · exact ⟨u, by rw [h1, h2]; rfl⟩
theorem get_namF {kvs : List (Str × Value)} (h : NamAre kvs) (p : Str) : ∃ f : Tok → Tok, ∀ u, (valueAt kvs (nmS p)).getD (.str (Str.ofString "&" ++ nmS p) u) = .str (baS p) (f u) := by
  unfold baS
  rcases h (nmS p) with ⟨t, y, h1, h2⟩ | ⟨h1, h2⟩
  · exact ⟨fun _ => t, fun u => by rw [h1, h2]; rfl⟩
  · exact ⟨fun u => u, fun u => by rw [h1, h2]; rfl⟩
theorem namT_len : ∀ y ∈ namT.map (·.2), y.length ≤ 1 := by decide
theorem lookup_mem {k y : Str} : ∀ {l : List (Str × Str)}, l.lookup k = some y → y ∈ l.map (·.2)
  | [], h => by simp at h
  | (a, b) :: r, h => by
    rw [List.lookup_cons] at h
    split at h
    · cases h; simp
    · exact List.mem_cons_of_mem _ (lookup_mem h)
theorem baS_len (p : Str) (h : (nmS p).length ≤ p.length) : (baS p).length ≤ p.length + 1 := by
  unfold baS
  cases e : namT.lookup (nmS p) with
  | some y => exact Nat.le_trans (namT_len y (lookup_mem e)) (by omega)
  | none =>
    show (Str.ofString "&" ++ nmS p).length ≤ _
    rw [Str.length_append]
    have : (Str.ofString "&").length = 1 := rfl
    omega
def partsR (v : Str) : List Str := (Txt.split v (Str.ofString "&")).take 1 ++ ((Txt.split v (Str.ofString "&")).drop 1).map rdS
def readS (v : Str) : Str := Txt.join (Str.ofString "") (partsR v)
theorem sum_le (B : Nat) : ∀ ys : List Str, (∀ y ∈ ys, y.length ≤ B) → (ys.map (·.length)).sum ≤ B * ys.length
  | [], _ => Nat.le_refl _
  | y :: r, h => by
    have ih := sum_le B r fun z hz => h z (List.mem_cons_of_mem _ hz)
    have h1 := h y (List.mem_cons_self ..)
    simp only [List.map_cons, List.sum_cons, List.length_cons] at ih ⊢
    rw [Nat.mul_add]; omega
theorem slice_len (p : Str) (lo hi : Option Int) : (Txt.slice p lo hi).length ≤ p.length := PyProof.Txt.length_slice_le p lo hi
theorem rdS_len (p : Str) : (rdS p).length ≤ 2 * p.length + 1 := by
  have h1 := baS_len p (slice_len p _ _)
  have h2 := slice_len p (some ((nmS p).length : Nat)) none
  unfold rdS
  rw [Str.length_append]; omega
theorem partsR_w (v : Str) (hv : v.length ≤ 400) (hall : ∀ a ∈ Txt.split v (Str.ofString "&"), a.length ≤ v.length) : ((partsR v).map (·.length)).sum + (partsR v).length ≤ 1048576 := by
  have h1 : ∀ y ∈ partsR v, y.length ≤ 801 := by
    intro y hy
    rcases List.mem_append.mp hy with hy | hy
    · have := hall y (List.mem_of_mem_take hy); omega
    · obtain ⟨p, hp, rfl⟩ := List.mem_map.mp hy
      have h3 := hall p (List.mem_of_mem_drop hp)
      have := rdS_len p
      omega
  have h2 : (partsR v).length ≤ 402 := by
    have := split_cnt v 38
    have h4 : (Txt.split v (Str.ofString "&")).length ≤ v.length + 1 := this
    unfold partsR
    rw [List.length_append, List.length_map, List.length_take, List.length_drop]
    omega
  have := sum_le 801 _ h1
  omega
local macro_rules | `(tactic| walk_at "execs cons") => `(tactic| ((with_reducible show wpAny _ _ (execs (PySem.Stmt.Assign [PySem.Expr.Name (PySem.Str.ofString "signs") _] _ _ :: _) _) _ _ _); refine unhold ?_))
local macro_rules | `(tactic| walk_at "call builtin:dict.get") => `(tactic| refine unhold ?_)
local macro_rules | `(tactic| walk_at "call builtin:list.append") => `(tactic| refine unhold ?_)
theorem read_c {w mean mg mb news} (v : Str) (t : Tok) : Claim 4 w mean mg mb 41 news (v.length ≤ 400) [.str v t] (fun _ h₀ L m s Q =>
     ∀ t' h' tk', Fr h₀ L h' m → News h₀ L h' news → Q (.str (readS v) t') {s with heap := h', toks := tk'}) := by
  dsimp only [Claim, PG, KF, VW, LS]; k_fill; intros; rename_i hret
  rename (v.length ≤ 400) => hv
  refine wpAny_call ?_
  k_dflt cell_enter
  ktr_rel
  refine hold ?_
  refine wpAny_execs_cons ?_
  try dsimp only
  rename (List.map _ _ = Txt.split v _) => hsp
  rename StrsAre _ _ => hS
  rename Heap.IsList _ _ _ => hL
  rw [hsp] at hS
  rename (∀ (a : Str), a ∈ List.map _ _ → Str.length a ≤ Str.length v) => hall0
  have hall := hall0
  rw [hsp] at hall
  have hcn := split_cnt v 38
  generalize strValues _ = pv at *
  have hpl := strs_len hS
  have hpv : pv.length ≤ 1000000 := by rw [hpl]; exact Nat.le_trans hcn (by omega)
  ktr_rel
  refine hold ?_
  rename Fr _ _ _ _ => FP
  rename News _ _ _ _ => NP
  rename (_ ∧ _ ∧ _ ∧ AllLt _ _) => ho2
  rename (_ ∧ _ ∧ AllLt _ _) => ho1
  rename Obj.IsDictOf _ _ _ => hdict
  rename ((_ == sysModules) = false) => hsys
  obtain ⟨kvs, hkvs, hD⟩ : ∃ kvs, NamAre kvs ∧ Obj.IsDictOf (PySem.strKind Challenge.rw_mg0011_01.row.prog w) _ kvs := ⟨_, nam_are _ _ _ _ _, hdict⟩
  clear hdict
  replace NP := news_rd NP
  obtain ⟨lp, ld, dn, od, e1, e2, e3, e4⟩ := pick3 NP
  subst e1 e2 e4
  have hoff : ∀ p ∈ (ld, W.listOf (List.drop (Int.toNat 1) pv).toArray 0) :: (dn, od) :: news, p.1 ≠ lp := by
    intro p hp
    rcases List.mem_cons.mp hp with e | hp
    · rw [e]; exact Nat.ne_of_gt ho2.1
    rcases List.mem_cons.mp hp with e | hp
    · rw [e, e3]; exact Nat.ne_of_lt ho1.2.1
    · exact allLt_ne ho1.2.2 p hp
  rw [← e3] at NP hsys
  refine iterL (l := ld) (vs := List.drop (Int.toNat 1) pv) (J := fun i m news' => ∃ vs n', StrsAre vs (((Txt.split v (Str.ofString "&")).take 1) ++ (((Txt.split v (Str.ofString "&")).drop 1).take i).map rdS) ∧ m (Str.ofString "signs") = some (.ref lp) ∧ m (Str.ofString "names") = some (.ref dn) ∧ news' = (lp, W.listOf vs.toArray n') :: (ld, W.listOf (List.drop (Int.toNat 1) pv).toArray 0) :: (dn, od) :: news) rfl (isListN NP (List.Mem.tail _ (List.Mem.head _))) (NP _ (List.Mem.tail _ (List.Mem.head _))).2.1 FP NP ?_ ?_ ?_
  · refine ⟨_, _, ?_, rfl, by rw [e3]; exact rfl, rfl⟩
    simpa using strs_take 1 hS
  · clear FP NP
    rintro i pc m₁ _ h tk own I hpc ⟨vs, n', hvs, h1, h2, rfl⟩ hoffI hown hI FP NP
    have hS2 := strs_drop 1 hS
    obtain ⟨p, hp⟩ : ∃ p, ((Txt.split v (Str.ofString "&")).drop 1)[i]? = some p := by
      have h3 := strs_len hS2
      have h4 : i < (List.drop (Int.toNat 1) pv).length := by
        rcases Nat.lt_or_ge i (List.drop (Int.toNat 1) pv).length with h | h
        · exact h
        · rw [List.getElem?_eq_none h] at hpc; cases hpc
      exact ⟨((Txt.split v (Str.ofString "&")).drop 1)[i]'(by rw [← h3]; exact h4), by simp⟩
    obtain ⟨u, hu⟩ := strs_get hS2 hp
    rw [show (List.drop (Int.toNat 1) pv) = List.drop 1 pv from rfl, hu] at hpc
    cases hpc
    have hpl : p.length ≤ v.length := by
      have hm := List.mem_of_mem_drop (List.mem_of_getElem? hp)
      rw [← hsp] at hm
      exact hall0 p hm
    replace FP := frN FP (a := Str.ofString "signs") (v := .ref lp) (by rw [if_neg (by decide)]; exact h1)
    replace FP := frN FP (a := Str.ofString "names") (v := .ref dn) (by rw [if_neg (by decide), if_neg (by decide)]; exact h2)
    ktr_rel
    rename News _ _ _ _ => N5
    refine hold ?_
    rename ((Txt.slice p none _).length ≤ p.length) => hnl
    have hbl := baS_len p hnl
    obtain ⟨ft, hft⟩ := get_namF hkvs p
    refine kdg_get2 (knd := PySem.strKind _ _) N5 (List.Mem.tail _ (List.Mem.tail _ (List.Mem.head _))) hD hsys (strKind_is _ _ _ _) (valueAt kvs (nmS p)) rfl ?_
    rw [show Txt.slice p none (some (Txt.find p (Str.ofString ";") + 1)) = nmS p from rfl]
    rw [hft]
    try dsimp only
    ktr_rel
    refine hold ?_
    rename Fr _ _ _ _ => F1
    rename News _ _ _ _ => N1
    have hll := strs_len hvs
    have hU : ∀ o', Upd lp (W.listOf vs.toArray n') o' ((lp, W.listOf vs.toArray n') :: ((ld, W.listOf (List.drop (Int.toNat 1) pv).toArray 0) :: (dn, od) :: news ++ own)) ((lp, o') :: ((ld, W.listOf (List.drop (Int.toNat 1) pv).toArray 0) :: (dn, od) :: news ++ own)) := fun o' => by
      refine Upd.head fun p hp => ?_
      rcases List.mem_append.mp hp with hp | hp
      · exact hoff p hp
      · rcases hown p hp with e | e
        · rw [e]; exact fun e2 => hoffI _ (List.Mem.head _) e2.symm
        · rw [e]; exact hoff _ (List.Mem.head _)
    have hsz : vs.toArray.size ≤ sizeLine := by
      show vs.length ≤ 2 ^ 24
      have hcn' : (Txt.split v (Str.ofString "&")).length ≤ v.length + 1 := hcn
      rw [List.length_append, List.length_map, List.length_take, List.length_take, List.length_drop] at hll
      omega
    refine append_K F1 N1 (hU _) ?_ hsz
    intro ha Fa Na
    rw [List.push_toArray] at Na
    refine wpAny_execs_nil ?_
    refine' tp_next (news' := (lp, _) :: (ld, W.listOf (List.drop (Int.toNat 1) pv).toArray 0) :: (dn, od) :: news) Fa Na ?g0 ⟨_, _, ?g1, rfl, rfl, rfl⟩
    case g0 =>
      intro p hp
      rcases List.mem_cons.mp hp with e | hp
      · subst e; exact hoffI (lp, W.listOf vs.toArray n') (List.Mem.head _)
      · exact hoffI p (List.Mem.tail _ hp)
    case g1 =>
      have e : ((Txt.split v (Str.ofString "&")).take 1) ++ (((Txt.split v (Str.ofString "&")).drop 1).take (i + 1)).map rdS = (((Txt.split v (Str.ofString "&")).take 1) ++ (((Txt.split v (Str.ofString "&")).drop 1).take i).map rdS) ++ [rdS p] := by
        rw [show ((Txt.split v (Str.ofString "&")).drop 1).take (i + 1) = ((Txt.split v (Str.ofString "&")).drop 1).take i ++ [p] from by rw [List.take_add_one, hp]; rfl, List.map_append, List.append_assoc]; rfl
      rw [e]; exact strs_push _ _ hvs
  · clear FP NP
    rintro m₁ _ h tk ⟨vs, n', hvs, h1, h2, rfl⟩ FP NP
    replace FP := frN FP (a := Str.ofString "signs") (v := .ref lp) h1
    have hS2 := strs_len (strs_drop 1 hS)
    rw [show (List.drop (Int.toNat 1) pv) = List.drop 1 pv from rfl, hS2, List.take_length] at hvs
    have hvs : StrsAre vs (partsR v) := hvs
    try dsimp only
    ktr_rel
    refine join_listW (isListN NP (List.Mem.head _)) hvs (by decide) (partsR_w v hv hall) ?_
    intro tj kj
    try dsimp only
    ktr_rel
    rename News _ _ _ _ => NP
    exact hret _ _ _ (by assumption) (fun p hp => NP p (List.Mem.tail _ (List.Mem.tail _ (List.Mem.tail _ hp))))
end
end Mine
end
section
open PySem PySem.W PyProof.Rows PyProof.Rows.LSm
namespace Mine
section
local macro_rules | `(tactic| cell_enter) => `(tactic| first | (refine' code_defC ?k1 ?k2 ?k3 ?k4 ?k5 ?kA ?kF ?kK ?k6 ?k7 ?k8 ?k9 ?kB ?kD ?_ ?c2 ?c3 ?c4; (case kA => exact rfl); (case kF => exact rfl); (case kK => assumption); (case k1 => k_asm); (case k2 => k_asm); (case k3 => k_asm); (case k4 => k_asm); (case k5 => k_asm); (case k6 => k_is); (case k7 => k_is); (case k8 => ktr_room); (case k9 => exact BindsTo.of_eq rfl); (case kB => exact rfl); (case kD => decide +kernel); (case c2 => exact rfl); (case c3 => exact rfl); (case c4 => exact rfl); k_whole; intro g' L' h' tk' cells' FG' F' N' Y' B' X' T' l1; (try k_lt l1); k_cells Y'; (try simp only [List.cons_append, List.nil_append] at N'); (try dsimp only); (try k_lift B'); (try k_fold)) | (refine' code_def ?k1 ?k2 ?k3 ?k4 ?k5 ?kA ?kF ?kK ?k6 ?k7 ?k8 ?k9 ?kB ?_ ?c2 ?c3 ?c4 ?c5; (case kA => exact rfl); (case kF => exact rfl); (case kK => assumption); (case k1 => k_asm); (case k2 => k_asm); (case k3 => k_asm); (case k4 => k_asm); (case k5 => k_asm); (case k6 => k_is); (case k7 => k_is); (case k8 => ktr_room); (case k9 => first | exact BindsTo.of_eq rfl | exact binds_K (by k_in) rfl (by k_is) rfl rfl rfl); (case c5 => decide); (case kB => exact locs rfl); (case c2 => exact rfl); (case c3 => exact rfl); (case c4 => exact rfl); k_whole; intro g' L' h' FG' F' N' B' X' T'; (try dsimp only); (try k_lift B'); (try k_fold)))
local macro_rules | `(tactic| ktr_rel) => `(tactic| repeat' (first | (k_unfold; (try dsimp only)) | walk1 | (dsimp only; walk1) | (leave1; try dsimp only) | fail "no step"))
local macro_rules | `(tactic| ktr_call $c $d) => `(tactic| (refine hold ?_; refine' $c _ _ _ _ _ _ _ _ _ _ _ _ _ _ _ _ _ ?k1 ?k2 ?k3 ?k4 ?k5 ?kK ?kp ?kd ?ku ?kR; (case k1 => k_asm); (case k2 => k_asm); (case k3 => k_asm); (case k4 => first | k_asm | (refine' news_cons ?kN ?km; (case kN => k_asm); (case km => k_mem)) | (refine' news_cons2 ?kN ?km ?kl; (case kN => k_asm); (case km => k_mem); (case kl => k_mem))); (case k5 => k_asm); (case kK => exact rfl); (case kp => exact $d); (case kd => ktr_room); (case ku => ktr_units)))
local macro_rules | `(tactic| walk_at "call ref") => `(tactic| refine unhold ?_)
local macro_rules | `(tactic| walk_at "pyIter ref") => `(tactic| refine unhold ?_)
local macro_rules | `(tactic| walk_at "CompEnd") => `(tactic| refine unhold ?_)
local macro_rules | `(tactic| walk_at "exec For Name Call cons nil") => `(tactic| (k_here; (rename Fr _ _ _ _ => lF'); k_dflt (refine forV lF' (by rfl) (by rfl) (by passes_own) (by intro _; rfl) ?_)))
local macro_rules | `(tactic| walk_at "exec For Name Name cons nil") => `(tactic| (k_here; (rename Fr _ _ _ _ => lF'); k_dflt (refine forV lF' (by rfl) (by rfl) (by passes_own) (by intro _; rfl) ?_)))
local macro_rules | `(tactic| walk_at "exec For Name Subscript cons nil") => `(tactic| (k_here; (rename Fr _ _ _ _ => lF'); k_dflt (refine forV lF' (by rfl) (by rfl) (by passes_own) (by intro _; rfl) ?_)))
local macro_rules | `(tactic| walk_at "call builtin:len") => `(tactic| (k_here; k_dflt (refine' len_N ?k1 ?k2 ?_; (case k1 => is_list); (case k2 => omega))))
local macro_rules | `(tactic| walk_at "call type:range") => `(tactic| ((rename Fr _ _ _ _ => F'); (rename News _ _ _ _ => N'); (with_unfolding_all refine range1_rows F' N' ?_; intro _ _ _ _ _ _ _ _ _)))
local macro_rules | `(tactic| walk_at "CompSrc") => `(tactic| (k_here; k_dflt (refine' LCg.CompSrc.range ?k1 ?k2 ?k3 ?k4 ?k5 ?k6 ?k7 ?_; (case k1 => rfl); (case k2 => k_asm); (case k3 => k_asm); (case k4 => assumption); (case k5 => first | exact small_one (by omega) (by omega) (by omega) (by omega) | decide); (case k6 => first | exact rangeSize_nat _ _ | rfl); (case k7 => (rw [PySem.sizeLine_eq]; omega))); intro g'; refine unhold ?_))
local macro_rules | `(tactic| walk_at "subscriptTail Name Slice ref ref") => `(tactic| (k_here; k_dflt (first
  | (refine' slV_up ?F ?N ?m ?p ?h0 ?z ?_ ?s ?t; (case F => k_asm); (case N => k_asm); (case m => k_mem); (case p => kmk_part); (case h0 => first | omega | decide); (case z => first | omega | exact Nat.le_of_ble_eq_true rfl); (case s => with_unfolding_all rfl); (case t => kmk_pure))
  | (refine' slV_from ?F ?N ?m ?p ?h0 ?z ?_ ?s ?t; (case F => k_asm); (case N => k_asm); (case m => k_mem); (case p => kmk_part); (case h0 => first | omega | decide); (case z => first | omega | exact Nat.le_of_ble_eq_true rfl); (case s => with_unfolding_all rfl); (case t => kmk_pure))); intro D' h' F' N' l1; (try k_lt l1); (try k_sweep)))
local macro_rules | `(tactic| walk_at "subscriptTail Name Name ref int") => `(tactic| (k_here; k_dflt (refine' item_N ?l ?b ?x ?_ ?s ?g; (case x => assumption); (case l => (rename News _ _ _ _ => hNN; exact isListN hNN (by k_mem))); (case b => omega); (case s => with_unfolding_all rfl); (case g => (intro _; with_unfolding_all rfl)))))
local macro_rules | `(tactic| walk_at "subscriptTail Name Constant ref int") => `(tactic| (k_here; k_dflt (refine' item_C ?l ?a ?b ?x ?_ ?s ?g; (case x => assumption); (case l => (rename News _ _ _ _ => hNN; exact isListN hNN (by k_mem))); (case a => decide); (case b => decide); (case s => with_unfolding_all rfl); (case g => (intro _; with_unfolding_all rfl)))))
local macro_rules | `(tactic| k_updF) => `(tactic| first | (refine' UpdF.head ?a; (case a => first | exact allNe1 (by assumption) | exact allLt_ne1 (by assumption) | exact allLt_ne (by assumption))) | (refine' UpdF.tail ?a ?b; (case a => first | assumption | k_ne); (case b => k_updF)))
local macro_rules | `(tactic| walk_at "pyIter str") => `(tactic| refine unhold ?_)
local macro_rules | `(tactic| walk_at "CompSrc Name") => `(tactic| refine unhold ?_)
local macro_rules | `(tactic| walk_at "eval ListComp") => `(tactic| (k_here; refine unhold ?_))
local macro_rules | `(tactic| walk_at "exec While Compare cons nil") => `(tactic| refine unhold ?_)
def rotT (v : Str) (k : Nat) : Str := Txt.slice v (some ((k : Nat) : Int)) none ++ Txt.slice v none (some ((k : Nat) : Int))
def LeastT (v : Str) (r : Nat) : Prop := 1 ≤ r ∧ rotT v r = v ∧ ∀ k, 1 ≤ k → k < r → rotT v k ≠ v
theorem slice_fromL {v : Str} {k : Nat} (h : k ≤ v.length) : (Txt.slice v (some ((k : Nat) : Int)) none).cps.toList = v.cps.toList.drop k := by
  rw [slice_from_eq (b := ((v.length : Nat) : Int)) (by omega) (by omega) rfl]
  show (v.cps.toList.drop ((k : Nat) : Int).toNat).take _ = _
  rw [show ((k : Nat) : Int).toNat = k from rfl, List.take_of_length_le]
  rw [List.length_drop]
  have : v.cps.toList.length = v.length := rfl
  omega
theorem slice_toL {v : Str} {k : Nat} (h : k ≤ v.length) : (Txt.slice v none (some ((k : Nat) : Int))).cps.toList = v.cps.toList.take k := by
  have := slice_closes_to (x := v) (j := ((k : Nat) : Int)) ⟨by omega, by have : v.cps.toList.length = v.length := rfl; omega⟩
  rw [eq_of_beq this]
  show (v.cps.toList.drop 0).take (((k : Nat) : Int) - 0).toNat = _
  rw [List.drop_zero, show (((k : Nat) : Int) - 0).toNat = k by omega]
theorem rotT_L {v : Str} {k : Nat} (h : k ≤ v.length) : (rotT v k).cps.toList = v.cps.toList.drop k ++ v.cps.toList.take k := by
  unfold rotT
  rw [Str.cps_append, Array.toList_append, slice_fromL h, slice_toL h]
theorem rot_all (v : Str) : rotT v v.length = v := by
  rw [str_eq_iff, rotT_L (Nat.le_refl _)]
  have : v.length = v.cps.toList.length := rfl
  rw [this, List.drop_length, List.take_length]; rfl
theorem least_c {w mean mg mb rest} (a₀ : Addr) (o₀ : Obj) (v : Str) (t : Tok) : Claim 4 w mean mg mb 48 ((a₀, o₀) :: rest) (1 ≤ v.length ∧ v.length ≤ 400) [.str v t] (fun _ h₀ L m s Q =>
     ∀ r t' h' tk', LeastT v r → r ≤ v.length → Fr h₀ L h' m → News h₀ L h' ((a₀, o₀) :: rest) → Q (.int ((r : Nat) : Int) t') {s with heap := h', toks := tk'}) := by
  dsimp only [Claim, PG, KF, VW, LS]; k_fill; intros; rename_i hret
  rename (1 ≤ v.length ∧ v.length ≤ 400) => hpre
  obtain ⟨hv1, hv⟩ := hpre
  refine wpAny_call ?_
  k_dflt cell_enter
  ktr_rel
  refine hold ?_
  rename Fr _ _ _ _ => FP
  rename News _ _ _ _ => NP
  refine While_inv (J := fun n m news' => ∃ k tk tv, m (Str.ofString "turn") = some (.int ((k : Nat) : Int) tk) ∧ m (Str.ofString "text") = some (.str v tv) ∧ 1 ≤ k ∧ k ≤ v.length ∧ (∀ j, 1 ≤ j → j < k → rotT v j ≠ v) ∧ n = v.length - k ∧ news' = (a₀, o₀) :: rest) (n₀ := v.length - 1) FP NP ?_ ?_ ?_
  · exact ⟨1, _, _, rfl, rfl, Nat.le_refl _, hv1, fun j h1 h2 => absurd h1 (by omega), rfl, rfl⟩
  · clear FP NP
    rintro n m₁ _ h₁ tk₁ FP NP ⟨k, tk, tv, h1, h2, h3, h3', h4, rfl, rfl⟩
    replace FP := frN FP (a := Str.ofString "turn") (v := .int ((k : Nat) : Int) tk) h1
    replace FP := frN FP (a := Str.ofString "text") (v := .str v tv) (by rw [if_neg (by decide)]; exact h2)
    ktr_rel
    · have hne : rotT v k ≠ v := by
        rename ((_ != v) = true) => hb
        exact fun e => by rw [show Txt.slice v (some ((k : Nat) : Int)) none ++ Txt.slice v none (some ((k : Nat) : Int)) = v from e] at hb; simp at hb
      have hlt : k < v.length := by
        rcases Nat.lt_or_ge k v.length with h | h
        · exact h
        · rw [show k = v.length by omega] at hne
          exact absurd (rot_all v) hne
      refine WhileStep.intro (n' := v.length - (k + 1)) (by assumption) (by assumption) (by omega) ⟨k + 1, _, tv, rfl, rfl, by omega, by omega, ?_, rfl, rfl⟩
      intro j hj1 hj2
      rcases Nat.lt_or_ge j k with h | h
      · exact h4 j hj1 h
      · rw [show j = k by omega]; exact hne
    · have he : rotT v k = v := by
        rename ((_ != v) = false) => hb
        have hb' : Txt.slice v (some ((k : Nat) : Int)) none ++ Txt.slice v none (some ((k : Nat) : Int)) = v := by simpa using hb
        exact hb'
      try dsimp only
      ktr_rel
      exact hret k _ _ _ ⟨h3, he, h4⟩ h3' (by assumption) (by assumption)
  · passes_own
end
end Mine
end
section
open PySem PySem.W PyProof.Rows PyProof.Rows.LSm
namespace Mine
def rot (l : List Nat) (k : Nat) : List Nat := l.drop k ++ l.take k
def bnd (q : Bool) (x : List Nat) (p : Nat) : Nat := (escL q (x.take p)).length
theorem escL_cons (q : Bool) (c : Nat) (r : List Nat) : escL q (c :: r) = tok q c ++ escL q r := rfl
theorem bnd_succ (q : Bool) (c : Nat) (r : List Nat) (p : Nat) : bnd q (c :: r) (p + 1) = (tok q c).length + bnd q r p := by
  unfold bnd; rw [List.take_succ_cons, escL_cons, List.length_append]
theorem bnd_zero (q : Bool) (x : List Nat) : bnd q x 0 = 0 := rfl
inductive TokIs (q : Bool) (c : Nat) : Prop
  | one (h : tok q c = [c]) (hc : c ≠ 38)
  | amp (h : tok q c = [38, 97, 109, 112, 59]) (hc : c = 38)
  | lt (h : tok q c = [38, 108, 116, 59]) (hc : c = 60)
  | gt (h : tok q c = [38, 103, 116, 59]) (hc : c = 62)
  | qu (h : tok q c = [38, 113, 117, 111, 116, 59]) (hc : c = 34)
  | ap (h : tok q c = [38, 35, 120, 50, 55, 59]) (hc : c = 39)
theorem tokIs (q : Bool) (c : Nat) : TokIs q c := by
  by_cases h1 : c = 38
  · subst h1; exact .amp rfl rfl
  by_cases h2 : c = 60
  · subst h2; exact .lt rfl rfl
  by_cases h3 : c = 62
  · subst h3; exact .gt rfl rfl
  have e : tok q c = (if q = true ∧ c = 34 then [38, 113, 117, 111, 116, 59] else if q = true ∧ c = 39 then [38, 35, 120, 50, 55, 59] else [c]) := by
    unfold tok; rw [if_neg h1, if_neg h2, if_neg h3]
  by_cases h4 : q = true ∧ c = 34
  · exact .qu (by rw [e, if_pos h4]) h4.2
  rw [if_neg h4] at e
  by_cases h5 : q = true ∧ c = 39
  · exact .ap (by rw [e, if_pos h5]) h5.2
  rw [if_neg h5] at e
  exact .one e h1
theorem tok_pos (q : Bool) (c : Nat) : 0 < (tok q c).length := by
  cases tokIs q c with
  | one h _ => rw [h]; exact Nat.succ_pos _
  | amp h _ => rw [h]; exact Nat.succ_pos _
  | lt h _ => rw [h]; exact Nat.succ_pos _
  | gt h _ => rw [h]; exact Nat.succ_pos _
  | qu h _ => rw [h]; exact Nat.succ_pos _
  | ap h _ => rw [h]; exact Nat.succ_pos _
theorem cut_at (q : Bool) : ∀ (x : List Nat) (k : Nat), k < (escL q x).length →
    (∃ p, p < x.length ∧ k = bnd q x p) ∨ (∃ p c, x[p]? = some c ∧ bnd q x p < k ∧ k < bnd q x p + (tok q c).length)
  | [], k, h => absurd h (Nat.not_lt_zero _)
  | c :: r, k, h => by
    rw [escL_cons, List.length_append] at h
    rcases Nat.eq_zero_or_pos k with h0 | h0
    · left; exact ⟨0, Nat.succ_pos _, h0⟩
    rcases Nat.lt_or_ge k (tok q c).length with h1 | h1
    · right; exact ⟨0, c, rfl, h0, by rw [bnd_zero]; omega⟩
    rcases cut_at q r (k - (tok q c).length) (by omega) with ⟨p, h2, h3⟩ | ⟨p, d, h2, h3, h4⟩
    · left; exact ⟨p + 1, by simpa using h2, by rw [bnd_succ]; omega⟩
    · right; exact ⟨p + 1, d, by simpa using h2, by rw [bnd_succ]; omega, by rw [bnd_succ]; omega⟩
theorem rot_bnd (q : Bool) (x : List Nat) (p : Nat) : rot (escL q x) (bnd q x p) = escL q (rot x p) := by
  have e : escL q x = escL q (x.take p) ++ escL q (x.drop p) := by rw [← escL_app, List.take_append_drop]
  unfold rot
  rw [escL_app]
  unfold bnd
  rw [e, List.drop_left, List.take_left]
theorem tok_end (q : Bool) (c : Nat) (a b : List Nat) (h : tok q c = a ++ 38 :: b) : 59 ∈ b := by
  have key : ∀ n : List Nat, tok q c = 38 :: n → 38 ∉ n → 59 ∈ n → 59 ∈ b := by
    intro n hn h1 h2
    rw [hn] at h
    cases a with
    | nil => simp only [List.nil_append, List.cons.injEq, true_and] at h; rw [← h]; exact h2
    | cons a0 a' =>
      simp only [List.cons_append, List.cons.injEq] at h
      exact absurd (by rw [h.2]; simp) h1
  cases tokIs q c with
  | one h1 hc =>
    rw [h1] at h
    cases a with
    | nil => simp only [List.nil_append, List.cons.injEq] at h; exact absurd h.1 hc
    | cons a0 a' => simp at h
  | amp h1 _ => exact key _ h1 (by decide) (by decide)
  | lt h1 _ => exact key _ h1 (by decide) (by decide)
  | gt h1 _ => exact key _ h1 (by decide) (by decide)
  | qu h1 _ => exact key _ h1 (by decide) (by decide)
  | ap h1 _ => exact key _ h1 (by decide) (by decide)
theorem esc_end (q : Bool) : ∀ (z a b : List Nat), escL q z = a ++ 38 :: b → 59 ∈ b
  | [], a, b, h => by simp [escL] at h
  | c :: r, a, b, h => by
    rw [escL_cons] at h
    rcases List.append_eq_append_iff.mp h with ⟨a', h1, h2⟩ | ⟨c', h1, h2⟩
    · exact esc_end q r a' b h2
    · cases c' with
      | nil => exact esc_end q r [] b (by simpa using h2.symm)
      | cons c0 b1 =>
        simp only [List.cons_append, List.cons.injEq] at h2
        obtain ⟨h3, h4⟩ := h2
        subst h3
        rw [h4]
        exact List.mem_append_left _ (tok_end q c a b1 h1)
theorem tok_take (q : Bool) (c j : Nat) (h0 : 0 < j) (h1 : j < (tok q c).length) : ∃ n, (tok q c).take j = 38 :: n ∧ 59 ∉ n := by
  have key : ∀ n : List Nat, tok q c = 38 :: n → (∀ i : Fin 6, i.1 < n.length → 59 ∉ n.take i.1) → n.length ≤ 5 → ∃ n, (tok q c).take j = 38 :: n ∧ 59 ∉ n := by
    intro n hn h2 h3
    rw [hn] at h1 ⊢
    obtain ⟨i, rfl⟩ : ∃ i, j = i + 1 := ⟨j - 1, by omega⟩
    simp only [List.length_cons] at h1
    exact ⟨n.take i, rfl, h2 ⟨i, by omega⟩ (by show i < n.length; omega)⟩
  cases tokIs q c with
  | one h _ => rw [h] at h1; simp at h1; omega
  | amp h _ => exact key _ h (by decide) (by decide)
  | lt h _ => exact key _ h (by decide) (by decide)
  | gt h _ => exact key _ h (by decide) (by decide)
  | qu h _ => exact key _ h (by decide) (by decide)
  | ap h _ => exact key _ h (by decide) (by decide)
theorem rot_in (q : Bool) (x : List Nat) (p c k : Nat) (hx : x[p]? = some c) (h1 : bnd q x p < k) (h2 : k < bnd q x p + (tok q c).length) (z : List Nat) : escL q z ≠ rot (escL q x) k := by
  intro he
  have hp : p < x.length := by
    rcases Nat.lt_or_ge p x.length with h | h
    · exact h
    · rw [List.getElem?_eq_none h] at hx; cases hx
  have hc : x[p] = c := by rw [List.getElem?_eq_getElem hp] at hx; exact Option.some.inj hx
  have e : escL q x = escL q (x.take p) ++ (tok q c ++ escL q (x.drop (p + 1))) := by
    rw [← escL_cons, ← escL_app]
    congr 1
    rw [← hc, List.getElem_cons_drop, List.take_append_drop]
  obtain ⟨n, hn, h59⟩ := tok_take q c (k - bnd q x p) (by omega) (by omega)
  have ht : (escL q x).take k = escL q (x.take p) ++ 38 :: n := by
    rw [e, List.take_append, List.take_of_length_le (show (escL q (x.take p)).length ≤ k by unfold bnd at h1; omega)]
    congr 1
    rw [List.take_append_of_le_length (by unfold bnd at h2; omega)]
    exact hn
  unfold rot at he
  rw [ht, ← List.append_assoc] at he
  exact h59 (esc_end q z _ n he)
end Mine
end
section
open PySem PySem.W PyProof.Rows PyProof.Rows.LSm
namespace Mine
theorem find_one {p : Str} {i : Nat} (h1 : p.cps.toList[i]? = some 59) (h2 : ∀ k, k < i → p.cps.toList[k]? ≠ some 59) : Txt.find p (Str.ofString ";") = ((i : Nat) : Int) := by
  rcases find_whole p ⟨#[59]⟩ with ⟨_, h⟩ | ⟨j, hj, ha, hn⟩
  · exact absurd ((StrLaws.subAt_one p 59 i).mpr h1) (h i)
  · have hj1 := (StrLaws.subAt_one p 59 j).mp ha
    have : j = i := by
      rcases Nat.lt_trichotomy j i with h | h | h
      · exact absurd hj1 (h2 j h)
      · exact h
      · exact absurd ((StrLaws.subAt_one p 59 i).mpr h1) (hn i h)
    rw [← this]; exact hj
theorem rd_name {p : Str} {nm r : List Nat} {c : Nat} (hp : p.cps.toList = nm ++ r) (hi : ∃ a, nm = a ++ [59] ∧ 59 ∉ a) (hl : namT.lookup ⟨nm.toArray⟩ = some ⟨#[c]⟩) : (rdS p).cps.toList = c :: r := by
  obtain ⟨a, rfl, ha⟩ := hi
  have hf : Txt.find p (Str.ofString ";") = ((a.length : Nat) : Int) := by
    refine find_one ?_ ?_
    · rw [hp]; simp
    · intro k hk
      rw [hp, List.append_assoc, List.getElem?_append_left hk]
      intro e
      exact ha (List.mem_of_getElem? e)
  have hlen : p.length = (a ++ [59]).length + r.length := by
    have : p.length = p.cps.toList.length := rfl
    rw [this, hp, List.length_append]
  have hn : nmS p = ⟨(a ++ [59]).toArray⟩ := by
    refine str_ext ?_
    unfold nmS
    rw [hf, show (((a.length : Nat) : Int) + 1) = (((a.length + 1 : Nat)) : Int) by omega, slice_toL (by rw [hlen]; simp)]
    rw [hp]
    have : a.length + 1 = (a ++ [59]).length := by simp
    rw [this, List.take_left]
  unfold rdS baS
  rw [hn, hl]
  show ((⟨#[c]⟩ : Str) ++ _).cps.toList = _
  rw [Str.cps_append, Array.toList_append]
  have e : (Str.mk (a ++ [59]).toArray).length = (a ++ [59]).length := by simp [Str.length]
  rw [e, slice_fromL (by rw [hlen]; omega), hp, List.drop_left]
  rfl
theorem look_amp : namT.lookup ⟨([97, 109, 112, 59] : List Nat).toArray⟩ = some ⟨#[38]⟩ := by decide
theorem look_lt : namT.lookup ⟨([108, 116, 59] : List Nat).toArray⟩ = some ⟨#[60]⟩ := by decide
theorem look_gt : namT.lookup ⟨([103, 116, 59] : List Nat).toArray⟩ = some ⟨#[62]⟩ := by decide
theorem look_qu : namT.lookup ⟨([113, 117, 111, 116, 59] : List Nat).toArray⟩ = some ⟨#[34]⟩ := by decide
theorem look_ap : namT.lookup ⟨([35, 120, 50, 55, 59] : List Nat).toArray⟩ = some ⟨#[39]⟩ := by decide
theorem tok_name (q : Bool) (c : Nat) : (tok q c = [c] ∧ c ≠ 38) ∨ ∃ nm, tok q c = 38 :: nm ∧ 38 ∉ nm ∧ (∃ a, nm = a ++ [59] ∧ 59 ∉ a) ∧ namT.lookup ⟨nm.toArray⟩ = some ⟨#[c]⟩ := by
  cases tokIs q c with
  | one h hc => exact .inl ⟨h, hc⟩
  | amp h hc => subst hc; exact .inr ⟨_, h, by decide, ⟨[97, 109, 112], rfl, by decide⟩, look_amp⟩
  | lt h hc => subst hc; exact .inr ⟨_, h, by decide, ⟨[108, 116], rfl, by decide⟩, look_lt⟩
  | gt h hc => subst hc; exact .inr ⟨_, h, by decide, ⟨[103, 116], rfl, by decide⟩, look_gt⟩
  | qu h hc => subst hc; exact .inr ⟨_, h, by decide, ⟨[113, 117, 111, 116], rfl, by decide⟩, look_qu⟩
  | ap h hc => subst hc; exact .inr ⟨_, h, by decide, ⟨[35, 120, 50, 55], rfl, by decide⟩, look_ap⟩
def jn : List Str → List Nat
  | [] => []
  | [p] => p.cps.toList
  | p :: q :: r => p.cps.toList ++ 38 :: jn (q :: r)
theorem join_jn : ∀ ps : List Str, (Str.join ⟨#[38]⟩ ps).cps.toList = jn ps
  | [] => rfl
  | [p] => rfl
  | p :: q :: r => by
    have ih := join_jn (q :: r)
    show (p ++ ⟨#[38]⟩ ++ Str.join ⟨#[38]⟩ (q :: r)).cps.toList = _
    rw [Str.cps_append, Str.cps_append, Array.toList_append, Array.toList_append, ih, List.append_assoc]
    rfl
def rdAll (ps : List Str) : List Nat := (ps.take 1 ++ (ps.drop 1).map rdS).flatMap fun y => y.cps.toList
theorem rdAll_cons (p : Str) (r : List Str) : rdAll (p :: r) = p.cps.toList ++ (r.map rdS).flatMap fun y => y.cps.toList := by simp [rdAll]
theorem jn_head {p : Str} {l : List Nat} {c : Nat} {x : List Nat} (r : List Str) (hp : p.cps.toList = c :: l) (h : jn (p :: r) = c :: x) : jn (⟨l.toArray⟩ :: r) = x := by
  cases r with
  | nil =>
    have h : p.cps.toList = c :: x := h
    rw [hp] at h
    exact (List.cons.inj h).2
  | cons a r =>
    have h : p.cps.toList ++ 38 :: jn (a :: r) = c :: x := h
    rw [hp] at h
    exact (List.cons.inj h).2
theorem jn_pre {p : Str} {nm x : List Nat} (r : List Str) (hn : 38 ∉ nm) (h : jn (p :: r) = nm ++ x) : ∃ l, p.cps.toList = nm ++ l ∧ jn (⟨l.toArray⟩ :: r) = x := by
  cases r with
  | nil => exact ⟨x, h, rfl⟩
  | cons a r =>
    have h : p.cps.toList ++ 38 :: jn (a :: r) = nm ++ x := h
    rcases List.append_eq_append_iff.mp h with ⟨a', h1, h2⟩ | ⟨c', h1, h2⟩
    · cases a' with
      | nil =>
        refine ⟨[], by rw [h1]; simp, ?_⟩
        show [] ++ 38 :: jn (a :: r) = x
        simpa using h2
      | cons a0 a1 =>
        simp only [List.cons_append, List.cons.injEq] at h2
        exact absurd (by rw [h1, ← h2.1]; simp) hn
    · exact ⟨c', h1, h2.symm⟩
theorem read_esc (q : Bool) : ∀ (y : List Nat) (ps : List Str), (∀ p ∈ ps, 38 ∉ p.cps.toList) → jn ps = escL q y → rdAll ps = y
  | [], [], _, _ => rfl
  | c :: y, [], _, h => by
    have h1 := tok_pos q c
    have h2 : [] = tok q c ++ escL q y := h
    rw [List.append_eq_nil_iff.mp h2.symm |>.1] at h1
    exact absurd h1 (Nat.lt_irrefl _)
  | [], [p], _, h => by
    have h : p.cps.toList = [] := h
    rw [rdAll_cons, h]; rfl
  | [], p :: a :: r, _, h => by
    have h : p.cps.toList ++ 38 :: jn (a :: r) = [] := h
    simp at h
  | c :: y, p :: r, hfree, h => by
    rw [escL_cons] at h
    rcases tok_name q c with ⟨ht, hc⟩ | ⟨nm, ht, hn38, hsemi, hlook⟩
    · rw [ht] at h
      have hp : ∃ l, p.cps.toList = c :: l := by
        cases hpl : p.cps.toList with
        | nil =>
          cases r with
          | nil => have h : p.cps.toList = [c] ++ escL q y := h; rw [hpl] at h; simp at h
          | cons a r =>
            have h : p.cps.toList ++ 38 :: jn (a :: r) = [c] ++ escL q y := h
            rw [hpl] at h
            simp only [List.nil_append, List.cons_append, List.cons.injEq] at h
            exact absurd h.1.symm hc
        | cons a l =>
          cases r with
          | nil =>
            have h : p.cps.toList = [c] ++ escL q y := h
            rw [hpl] at h
            simp only [List.cons_append, List.nil_append, List.cons.injEq] at h
            exact ⟨l, by rw [h.1]⟩
          | cons b r =>
            have h : p.cps.toList ++ 38 :: jn (b :: r) = [c] ++ escL q y := h
            rw [hpl] at h
            simp only [List.cons_append, List.nil_append, List.cons.injEq] at h
            exact ⟨l, by rw [h.1]⟩
      obtain ⟨l, hl⟩ := hp
      have h2 := jn_head r hl h
      have ih := read_esc q y (⟨l.toArray⟩ :: r) (fun p' hp' => by
        rcases List.mem_cons.mp hp' with e | hp'
        · rw [e]; intro hm; exact hfree p (List.mem_cons_self ..) (by rw [hl]; exact List.mem_cons_of_mem _ hm)
        · exact hfree p' (List.mem_cons_of_mem _ hp')) h2
      rw [rdAll_cons] at ih ⊢
      rw [hl, List.cons_append]
      congr 1
    · rw [ht] at h
      have hpe : p.cps.toList = [] := by
        cases hpl : p.cps.toList with
        | nil => rfl
        | cons a l =>
          exfalso
          have h38 := hfree p (List.mem_cons_self ..)
          rw [hpl] at h38
          cases r with
          | nil =>
            have h : p.cps.toList = 38 :: nm ++ escL q y := h
            rw [hpl] at h
            simp only [List.cons_append, List.cons.injEq] at h
            exact h38 (by rw [h.1]; exact List.mem_cons_self ..)
          | cons b r =>
            have h : p.cps.toList ++ 38 :: jn (b :: r) = 38 :: nm ++ escL q y := h
            rw [hpl] at h
            simp only [List.cons_append, List.cons.injEq] at h
            exact h38 (by rw [h.1]; exact List.mem_cons_self ..)
      cases r with
      | nil =>
        have h : p.cps.toList = 38 :: nm ++ escL q y := h
        rw [hpe] at h; simp at h
      | cons b r =>
        have h : p.cps.toList ++ 38 :: jn (b :: r) = 38 :: nm ++ escL q y := h
        rw [hpe] at h
        simp only [List.nil_append, List.cons_append, List.cons.injEq, true_and] at h
        obtain ⟨l, hl, h2⟩ := jn_pre r hn38 h
        have ih := read_esc q y (⟨l.toArray⟩ :: r) (fun p' hp' => by
          rcases List.mem_cons.mp hp' with e | hp'
          · rw [e]; intro hm; exact hfree b (List.mem_cons_of_mem _ (List.mem_cons_self ..)) (by rw [hl]; exact List.mem_append_right _ hm)
          · exact hfree p' (List.mem_cons_of_mem _ (List.mem_cons_of_mem _ hp'))) h2
        rw [rdAll_cons] at ih ⊢
        rw [hpe, List.nil_append, List.map_cons, List.flatMap_cons, rd_name hl hsemi hlook, List.cons_append]
        congr 1
theorem readS_L (v : Str) : (readS v).cps.toList = rdAll (Txt.split v ⟨#[38]⟩) := by
  show (Txt.join (Str.ofString "") (partsR v)).cps.toList = _
  unfold Txt.join
  rw [StrLaws.glued_eq_join, join_flat]
  unfold partsR rdAll
  rw [show Str.ofString "&" = (⟨#[38]⟩ : Str) from rfl]
theorem readS_esc (q : Bool) (y : List Nat) (v : Str) (h : v.cps.toList = escL q y) : (readS v).cps.toList = y := by
  rw [readS_L]
  have hj := StrLaws.join_split v ⟨#[38]⟩
  refine read_esc q y _ (StrLaws.split_free v 38) ?_
  rw [← join_jn, hj, h]
theorem esc_inj (q : Bool) (x y : List Nat) (h : escL q x = escL q y) : x = y := by
  have h1 := readS_esc q x ⟨(escL q x).toArray⟩ rfl
  have h2 := readS_esc q y ⟨(escL q x).toArray⟩ (by rw [h])
  rw [← h1, ← h2]
end Mine
end
section
open PySem PySem.W PyProof.Rows PyProof.Rows.LSm
namespace Mine
def LeastL (l : List Nat) (r : Nat) : Prop := 1 ≤ r ∧ rot l r = l ∧ ∀ k, 1 ≤ k → k < r → rot l k ≠ l
theorem least_TL {v : Str} {r : Nat} (h : LeastT v r) (hr : r ≤ v.length) : LeastL v.cps.toList r := by
  obtain ⟨h1, h2, h3⟩ := h
  refine ⟨h1, ?_, fun k hk1 hk2 => ?_⟩
  · have := congrArg (fun s : Str => s.cps.toList) h2
    simp only [rotT_L hr] at this
    exact this
  · intro e
    refine h3 k hk1 hk2 ?_
    rw [str_eq_iff, rotT_L (by omega)]
    exact e
theorem bnd_mono (q : Bool) (x : List Nat) {a b : Nat} (h : a ≤ b) : bnd q x a ≤ bnd q x b := by
  unfold bnd
  have e : x.take b = x.take a ++ (x.take b).drop a := by
    have := List.take_append_drop a (x.take b)
    rw [List.take_take, Nat.min_eq_left h] at this
    exact this.symm
  rw [e, escL_app, List.length_append]
  omega
theorem bnd_le (q : Bool) (x : List Nat) (a : Nat) : bnd q x a ≤ (escL q x).length := by
  rcases Nat.le_total a x.length with h | h
  · have := bnd_mono q x h
    unfold bnd at this
    rw [List.take_length] at this
    exact this
  · unfold bnd; rw [List.take_of_length_le h]; exact Nat.le_refl _
theorem bnd_pos (q : Bool) : ∀ (x : List Nat) (a : Nat), 1 ≤ a → 1 ≤ x.length → 1 ≤ bnd q x a
  | [], _, _, h => absurd h (by simp)
  | c :: r, a + 1, _, _ => by rw [bnd_succ]; have := tok_pos q c; omega
theorem least_esc {q : Bool} {x : List Nat} {t r : Nat} (hx : 1 ≤ x.length) (ht : LeastL x t) (hr : LeastL (escL q x) r) : r = (escL q (x.take t)).length := by
  obtain ⟨t1, t2, t3⟩ := ht
  obtain ⟨r1, r2, r3⟩ := hr
  have hT : rot (escL q x) (bnd q x t) = escL q x := by rw [rot_bnd, t2]
  have hp := bnd_pos q x t t1 hx
  show r = bnd q x t
  rcases Nat.lt_trichotomy r (bnd q x t) with h | h | h
  · exfalso
    have hle := bnd_le q x t
    rcases cut_at q x r (by omega) with ⟨p, hp1, hp2⟩ | ⟨p, c, hc, hp1, hp2⟩
    · have e : rot x p = x := by
        refine esc_inj q _ _ ?_
        rw [← rot_bnd, ← hp2, r2]
      have hp0 : 1 ≤ p := by
        rcases Nat.eq_zero_or_pos p with h0 | h0
        · rw [h0, bnd_zero] at hp2; omega
        · exact h0
      have hpt : p < t := by
        rcases Nat.lt_or_ge p t with h0 | h0
        · exact h0
        · have := bnd_mono q x h0; omega
      exact t3 p hp0 hpt e
    · exact rot_in q x p c r hc hp1 hp2 x r2.symm
  · exact h
  · exact absurd hT (r3 _ hp h)
def bgs (q : Bool) (x : List Nat) : List Int := (List.range x.length).map fun p => ((bnd q x p : Nat) : Int)
theorem turn_in {q : Bool} {x : List Nat} {k : Nat} (h : ((k : Nat) : Int) ∈ bgs q x) : ∃ p, p < x.length ∧ k = bnd q x p := by
  obtain ⟨p, hp, e⟩ := List.mem_map.mp h
  exact ⟨p, List.mem_range.mp hp, by omega⟩
theorem turn_out {q : Bool} {x : List Nat} {k : Nat} (hk : k < (escL q x).length) (h : ¬ ((k : Nat) : Int) ∈ bgs q x) (z : List Nat) : escL q z ≠ rot (escL q x) k := by
  rcases cut_at q x k hk with ⟨p, hp1, hp2⟩ | ⟨p, c, hc, hp1, hp2⟩
  · exact absurd (List.mem_map.mpr ⟨p, List.mem_range.mpr hp1, by rw [hp2]⟩) h
  · exact rot_in q x p c k hc hp1 hp2 z
end Mine
end
section
open PySem PySem.W PyProof.Rows PyProof.Rows.LSm
namespace Mine
theorem escS_L (v : Str) (q : Bool) : (escS v q).cps.toList = escL q v.cps.toList := rfl
theorem in_read {v : Str} {q : Bool} {i p : Nat} (hi : i = bnd q v.cps.toList p) (hp : p ≤ v.length) (hi2 : i ≤ (escS v q).length) :
    readS (rotT (escS v q) i) = rotT v p ∧ escS (readS (rotT (escS v q) i)) q = rotT (escS v q) i := by
  have hR : (rotT (escS v q) i).cps.toList = escL q (rot v.cps.toList p) := by
    rw [rotT_L hi2, escS_L, ← rot_bnd, ← hi, rot]
  have h1 := readS_esc q (rot v.cps.toList p) _ hR
  refine ⟨?_, ?_⟩
  · rw [str_eq_iff, h1, rotT_L hp, rot]
  · rw [str_eq_iff, hR, escS_L, h1]
theorem out_read {v : Str} {q : Bool} {i : Nat} (hi : i < (escS v q).length) (h : ¬ ((i : Nat) : Int) ∈ bgs q v.cps.toList) : escS (readS (rotT (escS v q) i)) q ≠ rotT (escS v q) i := by
  intro e
  have h1 := congrArg (fun s : Str => s.cps.toList) e
  simp only [escS_L, rotT_L (Nat.le_of_lt hi)] at h1
  exact turn_out hi h _ h1
theorem rdl_len : ∀ ps : List Str, ((ps.map rdS).flatMap fun y => y.cps.toList).length ≤ 2 * (jn ps).length + ps.length
  | [] => Nat.le_refl _
  | [p] => by
    have := rdS_len p
    have e : (rdS p).length = (rdS p).cps.toList.length := rfl
    have e2 : p.length = p.cps.toList.length := rfl
    simp only [List.map_cons, List.map_nil, List.flatMap_cons, List.flatMap_nil, List.append_nil, List.length_cons, List.length_nil, jn]
    omega
  | p :: a :: r => by
    have ih := rdl_len (a :: r)
    have := rdS_len p
    have e : (rdS p).length = (rdS p).cps.toList.length := rfl
    have e2 : p.length = p.cps.toList.length := rfl
    rw [List.map_cons, List.flatMap_cons, List.length_append]
    show _ ≤ 2 * (p.cps.toList ++ 38 :: jn (a :: r)).length + _
    simp only [List.length_append, List.length_cons] at ih ⊢
    omega
theorem readS_len (v : Str) : (readS v).length ≤ 4 * v.length + 2 := by
  have e : (readS v).length = (readS v).cps.toList.length := rfl
  rw [e, readS_L]
  have hj := StrLaws.join_split v ⟨#[38]⟩
  have hc := split_cnt v 38
  have hl : (jn (Txt.split v ⟨#[38]⟩)).length = v.length := by rw [← join_jn, hj]; rfl
  generalize Txt.split v ⟨#[38]⟩ = ps at *
  cases ps with
  | nil => exact Nat.zero_le _
  | cons p r =>
    rw [rdAll_cons, List.length_append]
    cases r with
    | nil =>
      have h : p.cps.toList.length = v.length := hl
      simp only [List.map_nil, List.flatMap_nil, List.length_nil]
      omega
    | cons a r =>
      have h : (p.cps.toList ++ 38 :: jn (a :: r)).length = v.length := hl
      have h2 := rdl_len (a :: r)
      simp only [List.length_append, List.length_cons] at h h2 hc ⊢
      omega
theorem any_in {k : Int} {ns : List Int} (h : (ns.any fun x => x == k) = true) : k ∈ ns := by
  obtain ⟨x, hx, e⟩ := List.any_eq_true.mp h
  rw [← eq_of_beq e]; exact hx
theorem any_out {k : Int} {ns : List Int} (h : (ns.any fun x => x == k) = false) : ¬ k ∈ ns := fun hm => by
  have : (ns.any fun x => x == k) = true := List.any_eq_true.mpr ⟨k, hm, by simp⟩
  rw [h] at this; cases this
theorem bgs_get {q : Bool} {x : List Nat} {j : Nat} (h : j < (bgs q x).length) : (bgs q x)[j] = ((bnd q x j : Nat) : Int) := by
  simp [bgs]
theorem idx_bnd {q : Bool} {x : List Nat} {i : Nat} (h : ((i : Nat) : Int) ∈ bgs q x) : (bgs q x).idxOf ((i : Nat) : Int) < x.length ∧ i = bnd q x ((bgs q x).idxOf ((i : Nat) : Int)) := by
  have h1 := List.idxOf_lt_length_iff.mpr h
  have h2 := List.getElem_idxOf h1
  have h3 : (bgs q x).length = x.length := by simp [bgs]
  refine ⟨by omega, ?_⟩
  rw [bgs_get h1] at h2
  omega
end Mine
end
section
open PySem PySem.W PyProof.Rows PyProof.Rows.LSm
namespace Mine
section
local macro_rules | `(tactic| cell_enter) => `(tactic| first | (refine' code_defC ?k1 ?k2 ?k3 ?k4 ?k5 ?kA ?kF ?kK ?k6 ?k7 ?k8 ?k9 ?kB ?kD ?_ ?c2 ?c3 ?c4; (case kA => exact rfl); (case kF => exact rfl); (case kK => assumption); (case k1 => k_asm); (case k2 => k_asm); (case k3 => k_asm); (case k4 => k_asm); (case k5 => k_asm); (case k6 => k_is); (case k7 => k_is); (case k8 => ktr_room); (case k9 => exact BindsTo.of_eq rfl); (case kB => exact rfl); (case kD => decide +kernel); (case c2 => exact rfl); (case c3 => exact rfl); (case c4 => exact rfl); k_whole; intro g' L' h' tk' cells' FG' F' N' Y' B' X' T' l1; (try k_lt l1); k_cells Y'; (try simp only [List.cons_append, List.nil_append] at N'); (try dsimp only); (try k_lift B'); (try k_fold)) | (refine' code_def ?k1 ?k2 ?k3 ?k4 ?k5 ?kA ?kF ?kK ?k6 ?k7 ?k8 ?k9 ?kB ?_ ?c2 ?c3 ?c4 ?c5; (case kA => exact rfl); (case kF => exact rfl); (case kK => assumption); (case k1 => k_asm); (case k2 => k_asm); (case k3 => k_asm); (case k4 => k_asm); (case k5 => k_asm); (case k6 => k_is); (case k7 => k_is); (case k8 => ktr_room); (case k9 => first | exact BindsTo.of_eq rfl | exact binds_K (by k_in) rfl (by k_is) rfl rfl rfl); (case c5 => decide); (case kB => exact locs rfl); (case c2 => exact rfl); (case c3 => exact rfl); (case c4 => exact rfl); k_whole; intro g' L' h' FG' F' N' B' X' T'; (try dsimp only); (try k_lift B'); (try k_fold)))
local macro_rules | `(tactic| ktr_rel) => `(tactic| repeat' (first | (k_unfold; (try dsimp only)) | walk1 | (dsimp only; walk1) | (leave1; try dsimp only) | fail "no step"))
local macro_rules | `(tactic| ktr_call $c $d) => `(tactic| (refine hold ?_; refine' $c _ _ _ _ _ _ _ _ _ _ _ _ _ _ _ _ _ ?k1 ?k2 ?k3 ?k4 ?k5 ?kK ?kp ?kd ?ku ?kR; (case k1 => k_asm); (case k2 => k_asm); (case k3 => k_asm); (case k4 => first | k_asm | (refine' news_cons ?kN ?km; (case kN => k_asm); (case km => k_mem)) | (refine' news_cons2 ?kN ?km ?kl; (case kN => k_asm); (case km => k_mem); (case kl => k_mem))); (case k5 => k_asm); (case kK => exact rfl); (case kp => exact $d); (case kd => ktr_room); (case ku => ktr_units)))
local macro_rules | `(tactic| walk_at "call ref") => `(tactic| refine unhold ?_)
local macro_rules | `(tactic| walk_at "pyIter ref") => `(tactic| refine unhold ?_)
local macro_rules | `(tactic| walk_at "CompEnd") => `(tactic| refine unhold ?_)
local macro_rules | `(tactic| walk_at "exec For Name Call cons nil") => `(tactic| (k_here; (rename Fr _ _ _ _ => lF'); k_dflt (refine forV lF' (by rfl) (by rfl) (by passes_own) (by intro _; rfl) ?_)))
local macro_rules | `(tactic| walk_at "exec For Name Name cons nil") => `(tactic| (k_here; (rename Fr _ _ _ _ => lF'); k_dflt (refine forV lF' (by rfl) (by rfl) (by passes_own) (by intro _; rfl) ?_)))
local macro_rules | `(tactic| walk_at "exec For Name Subscript cons nil") => `(tactic| (k_here; (rename Fr _ _ _ _ => lF'); k_dflt (refine forV lF' (by rfl) (by rfl) (by passes_own) (by intro _; rfl) ?_)))
local macro_rules | `(tactic| walk_at "call builtin:len") => `(tactic| (k_here; k_dflt (refine' len_N ?k1 ?k2 ?_; (case k1 => is_list); (case k2 => omega))))
local macro_rules | `(tactic| walk_at "call type:range") => `(tactic| ((rename Fr _ _ _ _ => F'); (rename News _ _ _ _ => N'); (with_unfolding_all refine range1_rows F' N' ?_; intro _ _ _ _ _ _ _ _ _)))
local macro_rules | `(tactic| walk_at "CompSrc") => `(tactic| (k_here; k_dflt (refine' LCg.CompSrc.range ?k1 ?k2 ?k3 ?k4 ?k5 ?k6 ?k7 ?_; (case k1 => rfl); (case k2 => k_asm); (case k3 => k_asm); (case k4 => assumption); (case k5 => first | exact small_one (by omega) (by omega) (by omega) (by omega) | decide); (case k6 => first | exact rangeSize_nat _ _ | rfl); (case k7 => (rw [PySem.sizeLine_eq]; omega))); intro g'; refine unhold ?_))
local macro_rules | `(tactic| walk_at "subscriptTail Name Slice ref ref") => `(tactic| (k_here; k_dflt (first
  | (refine' slV_up ?F ?N ?m ?p ?h0 ?z ?_ ?s ?t; (case F => k_asm); (case N => k_asm); (case m => k_mem); (case p => kmk_part); (case h0 => first | omega | decide); (case z => first | omega | exact Nat.le_of_ble_eq_true rfl); (case s => with_unfolding_all rfl); (case t => kmk_pure))
  | (refine' slV_from ?F ?N ?m ?p ?h0 ?z ?_ ?s ?t; (case F => k_asm); (case N => k_asm); (case m => k_mem); (case p => kmk_part); (case h0 => first | omega | decide); (case z => first | omega | exact Nat.le_of_ble_eq_true rfl); (case s => with_unfolding_all rfl); (case t => kmk_pure))); intro D' h' F' N' l1; (try k_lt l1); (try k_sweep)))
local macro_rules | `(tactic| walk_at "subscriptTail Name Name ref int") => `(tactic| (k_here; k_dflt (refine' item_N ?l ?b ?x ?_ ?s ?g; (case x => assumption); (case l => (rename News _ _ _ _ => hNN; exact isListN hNN (by k_mem))); (case b => omega); (case s => with_unfolding_all rfl); (case g => (intro _; with_unfolding_all rfl)))))
local macro_rules | `(tactic| walk_at "subscriptTail Name Constant ref int") => `(tactic| (k_here; k_dflt (refine' item_C ?l ?a ?b ?x ?_ ?s ?g; (case x => assumption); (case l => (rename News _ _ _ _ => hNN; exact isListN hNN (by k_mem))); (case a => decide); (case b => decide); (case s => with_unfolding_all rfl); (case g => (intro _; with_unfolding_all rfl)))))
local macro_rules | `(tactic| k_updF) => `(tactic| first | (refine' UpdF.head ?a; (case a => first | exact allNe1 (by assumption) | exact allLt_ne1 (by assumption) | exact allLt_ne (by assumption))) | (refine' UpdF.tail ?a ?b; (case a => first | assumption | k_ne); (case b => k_updF)))
local macro_rules | `(tactic| walk_at "pyIter str") => `(tactic| refine unhold ?_)
local macro_rules | `(tactic| walk_at "CompSrc Name") => `(tactic| refine unhold ?_)
local macro_rules | `(tactic| walk_at "eval ListComp") => `(tactic| (k_here; refine unhold ?_))
theorem tok_len6 (q : Bool) (c : Nat) : (tok q c).length ≤ 6 := by
  cases tokIs q c with
  | one h _ => rw [h]; exact Nat.le_of_ble_eq_true rfl
  | amp h _ => rw [h]; decide
  | lt h _ => rw [h]; decide
  | gt h _ => rw [h]; decide
  | qu h _ => rw [h]; decide
  | ap h _ => rw [h]; decide
theorem join_tok (q : Bool) (x : List Nat) (k : Nat) : Txt.join (Str.ofString "") ((x.map (tokS q)).take k) = ⟨(escL q (x.take k)).toArray⟩ := by
  unfold Txt.join
  rw [StrLaws.glued_eq_join]
  refine str_ext ?_
  rw [join_flat, ← List.map_take, List.flatMap_map]
  rfl
theorem tok_w (q : Bool) (x : List Nat) (k : Nat) (h : x.length ≤ 15) : (((x.map (tokS q)).take k).map (·.length)).sum + ((x.map (tokS q)).take k).length ≤ 1048576 := by
  have h1 := sum_le 6 ((x.map (tokS q)).take k) (by
    intro y hy
    obtain ⟨c, _, rfl⟩ := List.mem_map.mp (List.mem_of_mem_take hy)
    exact tok_len6 q c)
  have h2 : ((x.map (tokS q)).take k).length ≤ 15 := by simp; omega
  omega
theorem join_all (q : Bool) (v : Str) : Txt.join (Str.ofString "") (v.cps.toList.map (tokS q)) = escS v q := by
  have := join_tok q v.cps.toList (v.cps.toList.map (tokS q)).length
  rw [List.take_length, List.length_map, List.take_length] at this
  exact this
theorem tok_w2 (q : Bool) (x : List Nat) (h : x.length ≤ 15) : ((x.map (tokS q)).map (·.length)).sum + (x.map (tokS q)).length ≤ 1048576 := by
  have := tok_w q x (x.map (tokS q)).length h
  rw [List.take_length] at this
  exact this
theorem ints_of : ∀ {ys : List Value} {g : Nat → Int}, (∀ (i : Nat) y, ys[i]? = some y → ∃ t, y = Value.int (g i) t) → IntsAre ys ((List.range ys.length).map g)
  | [], _, _ => .nil
  | y :: r, g, h => by
    obtain ⟨t, e⟩ := h 0 y rfl
    have ih := ints_of (ys := r) (g := fun i => g (i + 1)) fun i y' hy => h (i + 1) y' (by simpa using hy)
    rw [e, List.length_cons, List.range_succ_eq_map, List.map_cons, List.map_map]
    exact .cons _ t ih
theorem escS_len (v : Str) (q : Bool) : (escS v q).length ≤ 6 * v.length := by
  have h : ∀ l : List Nat, (escL q l).length ≤ 6 * l.length := by
    intro l
    induction l with
    | nil => exact Nat.le_refl _
    | cons a r ih =>
      have := tok_len6 q a
      rw [escL_cons, List.length_append, List.length_cons]
      omega
  exact h v.cps.toList
local macro_rules | `(tactic| walk_at "compareOp In int ref") => `(tactic| refine unhold ?_)
local macro_rules | `(tactic| walk_at "call builtin:list.index") => `(tactic| refine unhold ?_)
local macro_rules | `(tactic| walk_at "call builtin:str.join") => `(tactic| refine unhold ?_)
theorem least_fin {v : Str} {q : Bool} {r r2 : Nat} (hv : 1 ≤ v.length) (h1 : LeastT v r) (h2 : r ≤ v.length) (h3 : LeastT (escS v q) r2) (h4 : r2 ≤ (escS v q).length) : r2 = (escS (Txt.slice v none (some ((r : Nat) : Int))) q).length := by
  have h5 := least_esc (q := q) hv (least_TL h1 h2) (least_TL h3 h4)
  rw [h5]
  show _ = (escL q (Txt.slice v none (some ((r : Nat) : Int))).cps.toList).length
  rw [slice_toL h2]
theorem escS_pos (v : Str) (q : Bool) (h : 1 ≤ v.length) : 1 ≤ (escS v q).length := by
  have h1 := bnd_pos q v.cps.toList v.length h h
  have h2 := bnd_le q v.cps.toList v.length
  have h3 : (escL q v.cps.toList).length = (escS v q).length := rfl
  omega
theorem weight_ints (B : Nat) : ∀ ns : List Int, (∀ k ∈ ns, k.natAbs ≤ B) → PyData.weightAll (ns.map .int) ≤ (B + 2) * ns.length
  | [], _ => Nat.zero_le _
  | k :: r, h => by
    have ih := weight_ints B r fun z hz => h z (List.mem_cons_of_mem _ hz)
    have h1 := h k (List.mem_cons_self ..)
    have h2 : PyData.weight (.int k) ≤ B + 1 := by
      unfold PyData.weight
      split
      · omega
      · have := Nat.log2_le_self k.natAbs
        omega
    rw [List.map_cons, PyData.weightAll, List.length_cons, Nat.mul_add]
    omega
theorem lay_bgs (q : Bool) (x : List Nat) (h : x.length ≤ 15) (hw : (escL q x).length ≤ 1000) : PyData.layable0 (.list ((bgs q x).map .int)) = true := by
  have h1 := weight_ints 1000 (bgs q x) (by
    intro k hk
    obtain ⟨p, _, rfl⟩ := List.mem_map.mp hk
    have := bnd_le q x p
    omega)
  have h2 : (bgs q x).length ≤ 15 := by simp [bgs]; exact h
  have h3 : PyData.weightAll ((bgs q x).map .int) ≤ 2 ^ 20 := by
    have : 1002 * (bgs q x).length ≤ 1002 * 15 := Nat.mul_le_mul_left _ h2
    omega
  simp [PyData.layable0, PyData.canLay0, PyData.depth, PyData.weight, ke_canLayAll0, ke_depthAll]
  exact decide_eq_true h3
theorem turned_c {w mean mg mb news} (v : Str) (t : Tok) (q : Bool) : Claim 8 w mean mg mb 53 news (1 ≤ v.length ∧ v.length ≤ 15) [.str v t, .bool q] (fun _ h₀ L m s Q =>
     ∀ h' tk', Fr h₀ L h' m → Q (.bool true) {s with heap := h', toks := tk'}) := by
  dsimp only [Claim, PG, KF, VW, LS]; k_fill; intros; rename_i hret
  rename (1 ≤ v.length ∧ v.length ≤ 15) => hpre
  obtain ⟨hv1, hv⟩ := hpre
  refine wpAny_call ?_
  k_dflt cell_enter
  ktr_rel
  ktr_call (parts_c (mean := mean) (mg := mg) (mb := mb) (news := _) v _ q) (by omega)
  intro lp h9 tk9 ps n9 S9 O9 F9 N9
  have o9 := Ne.symm (O9 _ (List.Mem.head _))
  have hlp := strs_len S9
  rw [List.length_map, show v.cps.toList.length = v.length from rfl] at hlp
  try dsimp only
  ktr_rel
  refine hold ?_
  refine compR (fun i y => ∃ t, y = .int ((bnd q v.cps.toList i : Nat) : Int) t) ?_ ?_
  · intro i t I oI C oC D m₂ ys h tk E' hi hC hx F N off ne
    simp only [LCg.Off3] at off
    have hi0 : (0 : Int) ≤ 0 + (i : Int) := by omega
    ktr_rel
    refine hold ?_
    rename News _ _ _ _ => N8
    refine join_listW (isListN N8 (List.Mem.head _)) (strs_take _ S9) (by decide) (tok_w q _ _ hv) ?_
    intro tj kj
    rw [join_tok]
    have hjl : (Str.mk (escL q (v.cps.toList.take ((0 : Int) + (i : Int)).toNat)).toArray).length ≤ 90 := by
      have h1 := escS_len (Str.mk (v.cps.toList.take ((0 : Int) + (i : Int)).toNat).toArray) q
      have h2 : (Str.mk (v.cps.toList.take ((0 : Int) + (i : Int)).toNat).toArray).length ≤ v.length := by
        show (v.cps.toList.take _).length ≤ v.cps.toList.length
        rw [List.length_take]; omega
      have h3 : (escS (Str.mk (v.cps.toList.take ((0 : Int) + (i : Int)).toNat).toArray) q).length ≤ 90 := by omega
      exact h3
    have hjb : (Str.mk (escL q (v.cps.toList.take ((0 : Int) + (i : Int)).toNat)).toArray).length = bnd q v.cps.toList i := by
      rw [show ((0 : Int) + (i : Int)).toNat = i by omega]; rfl
    generalize Str.mk (escL q (v.cps.toList.take ((0 : Int) + (i : Int)).toNat)).toArray = X at *
    try dsimp only
    ktr_rel
    refine hold ?_
    refine LCg.CompEnd.intro (by k_asm) (by k_asm) _ (by kcf_all) (by first | assumption | (simp only [LCg.Off3, and_true]; done) | (simp only [LCg.Off3, and_true]; assumption)) True.intro ⟨rfl, ?_⟩
    show ∃ t, Value.int ((X.length : Nat) : Int) _ = Value.int ((bnd q v.cps.toList i : Nat) : Int) t
    rw [hjb]
    exact ⟨_, rfl⟩
  · intro ys hlen hys
    have hI := ints_of hys
    rw [hlen, show ((ps.length : Int) - 0).toNat = v.length by omega] at hI
    have hI : IntsAre ys (bgs q v.cps.toList) := hI
    ktr_rel
    ktr_call (escape_c (mean := mean) (mg := mg) (mb := mb) (news := _) v _ q) (by omega)
    intro tw h8 tk8 F8 N8
    have hwl := escS_len v q
    try dsimp only
    ktr_rel
    refine hold ?_
    rename News _ _ _ _ => N7
    refine join_listW (isListN N7 (List.Mem.tail _ (List.Mem.head _))) S9 (by decide) (tok_w2 q _ hv) ?_
    intro tj kj
    rw [join_all]
    try dsimp only
    ktr_rel
    · rename ((_ != _) = true) => hne
      exact absurd hne (by simp)
    refine hold ?_
    rename Fr _ _ _ _ => FP
    rename News _ _ _ _ => NP
    obtain ⟨lb, lb2, lb3, ob3, e1, e2, e3, e4⟩ := pick3 NP
    subst e1 e4
    clear e2 e3 lb2 lb3
    have hWl : (escS v q).length ≤ 90 := by omega
    refine iterRF (n := (escS v q).length) (J := fun i m => ∃ tw tv, m (Str.ofString "writing") = some (.str (escS v q) tw) ∧ m (Str.ofString "begins") = some (.ref lb) ∧ m (Str.ofString "text") = some (.str v tv) ∧ m (Str.ofString "quote") = some (.bool q)) rfl (by assumption) rfl (by omega) FP NP ⟨_, _, rfl, rfl, rfl, rfl⟩ ?_ ?_
    · clear FP NP
      rintro i ti m₁ h tk own hi ⟨tw, tv, h1, h2, h3, h4⟩ FP NP
      replace FP := frN FP (a := Str.ofString "writing") (v := .str (escS v q) tw) (by rw [if_neg (by decide)]; exact h1)
      replace FP := frN FP (a := Str.ofString "begins") (v := .ref lb) (by rw [if_neg (by decide), if_neg (by decide)]; exact h2)
      replace FP := frN FP (a := Str.ofString "text") (v := .str v tv) (by rw [if_neg (by decide), if_neg (by decide), if_neg (by decide)]; exact h3)
      replace FP := frN FP (a := Str.ofString "quote") (v := .bool q) (by rw [if_neg (by decide), if_neg (by decide), if_neg (by decide), if_neg (by decide)]; exact h4)
      ktr_rel
      have hsl1 := slice_len (escS v q) (some ((i : Nat) : Int)) none
      have hsl2 := slice_len (escS v q) none (some ((i : Nat) : Int))
      have hRl : (Txt.slice (escS v q) (some ((i : Nat) : Int)) none ++ Txt.slice (escS v q) none (some ((i : Nat) : Int))).length ≤ 180 := by rw [Str.length_append]; omega
      generalize hRe : Txt.slice (escS v q) (some ((i : Nat) : Int)) none ++ Txt.slice (escS v q) none (some ((i : Nat) : Int)) = R at *
      have hR2 : R = rotT (escS v q) i := hRe.symm
      clear hRe
      ktr_call (read_c (mean := mean) (mg := mg) (mb := mb) (news := _) R _) (by omega)
      intro t7 h7 tk7 F7 N7
      have hrl := readS_len R
      try dsimp only
      ktr_rel
      refine hold ?_
      rename News _ _ _ _ => N6
      refine in_list_ints (isListN N6 (List.Mem.head _)) hI ?_
      ktr_rel
      · rename (List.any _ _ = true) => hany
        have hin := any_in hany
        obtain ⟨hpl, hib⟩ := idx_bnd hin
        have hrd := in_read hib (Nat.le_of_lt hpl) (Nat.le_of_lt hi)
        rw [← hR2] at hrd
        refine hold ?_
        rename News _ _ _ _ => N5
        refine index_list_ints (isListN N5 (List.Mem.head _)) hI (lay_bgs q _ hv (by have := hWl; exact Nat.le_trans this (by decide))) hin ?_
        generalize (bgs q v.cps.toList).idxOf ((i : Nat) : Int) = pl at *
        have hplv : pl < v.length := hpl
        try dsimp only
        ktr_rel
        · rename ((readS R != _) = true) => hx
          have hq1 : readS R = Txt.slice v (some ((pl : Nat) : Int)) none ++ Txt.slice v none (some ((pl : Nat) : Int)) := hrd.1
          rw [hq1] at hx
          exact absurd hx (by simp)
        · ktr_call (escape_c (mean := mean) (mg := mg) (mb := mb) (news := _) (readS R) _ q) (by omega)
          intro t5 h5 tk5 F5 N5
          rw [hrd.2]
          try dsimp only
          ktr_rel
          · rename ((R != R) = true) => hx
            exact absurd hx (by simp)
          · exact tf_next (by assumption) (by assumption) ⟨_, _, rfl, rfl, rfl, rfl⟩
      · rename (List.any _ _ = false) => hany
        have hout := out_read hi (any_out hany)
        rw [← hR2] at hout
        ktr_call (escape_c (mean := mean) (mg := mg) (mb := mb) (news := _) (readS R) _ q) (by omega)
        intro t5 h5 tk5 F5 N5
        try dsimp only
        ktr_rel
        · rename ((escS (readS R) q == R) = true) => hx
          exact absurd (eq_of_beq hx) hout
        · exact tf_next (by assumption) (by assumption) ⟨_, _, rfl, rfl, rfl, rfl⟩
    · clear FP NP
      rintro m₁ h tk ⟨tw, tv, h1, h2, h3, h4⟩ FP NP
      replace FP := frN FP (a := Str.ofString "writing") (v := .str (escS v q) tw) h1
      replace FP := frN FP (a := Str.ofString "text") (v := .str v tv) (by rw [if_neg (by decide)]; exact h3)
      replace FP := frN FP (a := Str.ofString "quote") (v := .bool q) (by rw [if_neg (by decide), if_neg (by decide)]; exact h4)
      try dsimp only
      ktr_rel
      ktr_call (least_c (mean := mean) (mg := mg) (mb := mb) (rest := _) lb _ v _) ⟨hv1, by omega⟩
      intro r tr h6 tk6 hr hrv F6 N6
      try dsimp only
      ktr_rel
      ktr_call (least_c (mean := mean) (mg := mg) (mb := mb) (rest := _) lb _ (escS v q) _) ⟨escS_pos v q hv1, by omega⟩
      intro r2 tr2 h5 tk5 hr2 hr2v F5 N5
      have hsl := slice_len v none (some ((r : Nat) : Int))
      try dsimp only
      ktr_rel
      ktr_call (escape_c (mean := mean) (mg := mg) (mb := mb) (news := _) (Txt.slice v none (some ((r : Nat) : Int))) _ q) (by omega)
      intro t4 h4' tk4 F4 N4
      have hfin := least_fin hv1 hr hrv hr2 hr2v
      have hel := escS_len (Txt.slice v none (some ((r : Nat) : Int))) q
      generalize (escS (Txt.slice v none (some ((r : Nat) : Int))) q) = Z at *
      have hZ : Z.length ≤ 90 := by omega
      try dsimp only
      ktr_rel
      rw [show (((r2 : Nat) : Int) == ((Z.length : Nat) : Int)) = true by rw [hfin]; simp]
      exact hret _ _ (by assumption)
end
end Mine
end
section
open PySem PySem.W PyProof.Rows PyProof.Rows.LSm
namespace Mine
local macro_rules | `(tactic| ktr_rel) => `(tactic| repeat' (first | (k_unfold; (try dsimp only)) | walk1 | (dsimp only; walk1) | (leave1; try dsimp only) | fail "no step"))
local macro_rules | `(tactic| ktr_call $c $d) => `(tactic| (refine hold ?_; refine' $c _ _ _ _ _ _ _ _ _ _ _ _ _ _ _ _ _ ?k1 ?k2 ?k3 ?k4 ?k5 ?kK ?kp ?kd ?ku ?kR; (case k1 => k_asm); (case k2 => k_asm); (case k3 => k_asm); (case k4 => first | k_asm | (refine' news_cons ?kN ?km; (case kN => k_asm); (case km => k_mem)) | (refine' news_cons2 ?kN ?km ?kl; (case kN => k_asm); (case km => k_mem); (case kl => k_mem))); (case k5 => k_asm); (case kK => exact rfl); (case kp => exact $d); (case kd => ktr_room); (case ku => ktr_units)))
local macro_rules | `(tactic| walk_at "call ref") => `(tactic| refine unhold ?_)
theorem mul_flat (x : Str) (d : Nat) : (Txt.mul x (d : Int)).cps.toList = (List.replicate d x.cps.toList).flatten := by
  have hf : ∀ (k : Nat) (a : Array Nat), ((List.replicate k x.cps).foldl (· ++ ·) a).toList = a.toList ++ (List.replicate k x.cps.toList).flatten := by
    intro k
    induction k with
    | zero => intro a; simp
    | succ k ih => intro a; rw [List.replicate_succ, List.foldl_cons, ih]; simp [List.replicate_succ]
  unfold Txt.mul
  split
  · rename_i h
    have : d = 0 := by omega
    subst this; rfl
  · split
    · rename_i h1 h2
      simp only [Bool.or_eq_true, beq_iff_eq] at h2
      rcases h2 with h2 | h2
      · have : d = 1 := by omega
        subst this; simp
      · have : x.cps.toList = [] := by
          have h3 : x.cps.size = 0 := h2
          simpa using h3
        rw [this]
        induction d with
        | zero => rfl
        | succ k ih => simp
    · have := hf d #[]
      simpa using this
theorem slice5 (x : Str) (h : 1 ≤ x.length) : 1 ≤ (Txt.slice x none (some 5)).length ∧ (Txt.slice x none (some 5)).length ≤ 5 := by
  rcases Nat.lt_or_ge x.length 5 with h5 | h5
  · have key : ∀ n : Fin 5, (PySem.Builtin.Str.strSliceIndices none (some 5) 1 n.1).length = n.1 := by decide
    have hk := key ⟨x.length, h5⟩
    have e : Txt.slice x none (some 5) = x := by
      unfold Txt.slice
      rw [if_pos (by rw [hk]; simp)]
    rw [e]; omega
  · have e := slice_toL (v := x) (k := 5) h5
    have e2 : (Txt.slice x none (some 5)).length = 5 := by
      have h1 : (Txt.slice x none (some 5)).length = (Txt.slice x none (some (((5 : Nat)) : Int))).cps.toList.length := rfl
      rw [h1, e, List.length_take]
      have h2 : x.cps.toList.length = x.length := rfl
      omega
    omega
theorem mul_len (x : Str) (k : Int) (hx : 1 ≤ x.length ∧ x.length ≤ 5) (h0 : 0 ≤ k) (h1 : k < 3) : 1 ≤ (Txt.mul x (1 + k)).length ∧ (Txt.mul x (1 + k)).length ≤ 15 := by
  obtain ⟨d, hd⟩ : ∃ d : Nat, 1 + k = (d : Int) := ⟨(1 + k).toNat, by omega⟩
  have e : (Txt.mul x (1 + k)).length = d * x.length := by
    have h2 : (Txt.mul x (1 + k)).length = (Txt.mul x (1 + k)).cps.toList.length := rfl
    rw [h2, hd, mul_flat]
    simp
    rfl
  rw [e]
  have hd3 : d = 1 ∨ d = 2 ∨ d = 3 := by omega
  rcases hd3 with rfl | rfl | rfl <;> omega
theorem law_h : PySem.Challenge.rw_mg0011_01.Holds := by
  refine hd ?_
  k_go0
  all_goals try k_fold
  ktr_rel
  rename IntsAre _ (List.map _ _) => hI
  generalize hdr : List.map (fun k' => Int.fmod k' (10 ^ Int.toNat 9)) (List.take 12 _) = dr at *
  have hdl : dr.length ≤ 12 := by rw [← hdr]; simp; omega
  ktr_call (text_c (mean := _) (mg := _) (mb := _) (rest := _) _ _ _ _ hI) (by omega)
  intro tt h9 tk9 F9 N9
  have htl : (textS dr).length ≤ 72 := by
    have := textS_len dr
    omega
  generalize textS dr = begun at *
  generalize hsm : dr.sum = total at *
  have hm0 := Int.fmod_nonneg_of_pos total (show (0 : Int) < 3 by decide)
  have hm1 := Int.fmod_lt_of_pos total (show (0 : Int) < 3 by decide)
  try dsimp only
  ktr_rel
  · rename (((begun.length : Nat) : Int) ≠ 0) => hb0
    have h5 := slice5 begun (by omega)
    have hml := mul_len _ (total.fmod 3) h5 hm0 hm1
    ktr_call (turned_c (mean := _) (mg := _) (mb := _) (news := _) _ _ _) hml
    intro h4 tk4 F4
    try dsimp only
    k_end
    wrow_close
  · ktr_call (turned_c (mean := _) (mg := _) (mb := _) (news := _) _ _ _) (by omega)
    intro h4 tk4 F4
    try dsimp only
    k_end
    wrow_close
end Mine
end
theorem PySem.Challenge.cw_mg0011_01_holds : PySem.Challenge.rw_mg0011_01.Holds := by
  exact Mine.law_h
