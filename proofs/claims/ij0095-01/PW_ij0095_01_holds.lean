import PyProof.Rows.All
import Wide.All
import OpenK.AllK
import Wide.FinOn
import Lean
import PySem.Challenge.RW_ij0095_01
set_option Elab.async false
set_option maxRecDepth 100000
set_option maxHeartbeats 4000000
namespace Mine
section
open PySem PySem.W PyProof.Rows
section
local macro_rules
  | `(tactic| o_head $_) => `(tactic| assumption)
theorem laid (h : PySem.Challenge.rw_ij0095_01.row.Holds) : PySem.Challenge.rw_ij0095_01.row.Holds := by
  k_head
end
noncomputable abbrev pickL {l : List Stmt} (m : List Stmt) (_ : l = m) : List Stmt := m
noncomputable def vwB : List Stmt := pickL (l := (view PySem.Challenge.pw_ij0095_01 [0, 2, 3, 5, 6, 8, 9, 11, 12, 13, 14, 16, 17, 18, 19]).main.body) [_, _, _, _, _, _, _, _, _, _, _, _, _, _, _] rfl
noncomputable def vw : Program := { PySem.Challenge.pw_ij0095_01 with main := { PySem.Challenge.pw_ij0095_01.main with body := vwB } }
noncomputable abbrev lo2 : List Str := [Str.ofString "_twin_re_1", Str.ofString "_special_chars_map"]
theorem hkp (P : Params) : (2 :: 3 :: 6 :: 11 :: 12 :: 35 :: 36 :: 37 :: 39 :: 40 :: 42 :: 43 :: 45 :: 49 :: 51 :: 52 :: 54 :: 55 :: 56 :: 58 :: 59 :: 61 :: 62 :: 63 :: 65 :: 66 :: 68 :: 69 :: 70 :: 72 :: 73 :: 75 :: 76 :: 77 :: 79 :: 80 :: 82 :: 83 :: 84 :: 86 :: 87 :: 89 :: 90 :: 91 :: 93 :: 94 :: 96 :: 97 :: 98 :: 100 :: 101 :: 103 :: 104 :: 105 :: 107 :: 108 :: 110 :: 111 :: 112 :: 114 :: 115 :: 117 :: 118 :: 119 :: 122 :: 123 :: []) = (laid.heap_1 P).map (·.1) := by kernel_rfl
noncomputable abbrev hk : Hook := kmHook laid.heap_1 (2 :: 3 :: 6 :: 11 :: 12 :: 35 :: 36 :: 37 :: 39 :: 40 :: 42 :: 43 :: 45 :: 49 :: 51 :: 52 :: 54 :: 55 :: 56 :: 58 :: 59 :: 61 :: 62 :: 63 :: 65 :: 66 :: 68 :: 69 :: 70 :: 72 :: 73 :: 75 :: 76 :: 77 :: 79 :: 80 :: 82 :: 83 :: 84 :: 86 :: 87 :: 89 :: 90 :: 91 :: 93 :: 94 :: 96 :: 97 :: 98 :: 100 :: 101 :: 103 :: 104 :: 105 :: 107 :: 108 :: 110 :: 111 :: 112 :: 114 :: 115 :: 117 :: 118 :: 119 :: 122 :: 123 :: []) hkp [57]
noncomputable abbrev RunP (w : World) : Prop := (openEnds treeTable PySem.Challenge.rw_ij0095_01.row.prog w 3638).map (fun s => (openSeen vw lo2 (importedModules PySem.Challenge.rw_ij0095_01.row.prog.main.body) (fun s => xlAt vw [] s && recOk (RowW.records (PySem.Challenge.rw_ij0095_01.row.toRowW)) s) true s, hk.obs s)) = some (openGood vw lo2, hk.val w)

theorem s00 (w : World) : RunP ((w.withFollow "special-get-raises" false).withFollow "comprehension-iter-twice" false) := by kernel_rfl
theorem s01 (w : World) : RunP ((w.withFollow "special-get-raises" true).withFollow "comprehension-iter-twice" false) := by kernel_rfl
theorem s10 (w : World) : RunP ((w.withFollow "special-get-raises" false).withFollow "comprehension-iter-twice" true) := by kernel_rfl
theorem s11 (w : World) : RunP ((w.withFollow "special-get-raises" true).withFollow "comprehension-iter-twice" true) := by kernel_rfl
theorem ran : ∀ w : World, RunP w :=
  byRow2 "comprehension-iter-twice" (P := RunP) (byRow2 "special-get-raises" (P := fun w => RunP (w.withFollow "comprehension-iter-twice" false)) s00 s01) (byRow2 "special-get-raises" (P := fun w => RunP (w.withFollow "comprehension-iter-twice" true)) s10 s11)
end
section
open PySem PySem.W PyProof.Rows PySem.Spec PySem.Calls
noncomputable abbrev Calls (w : World) (p : Program) (loose : List Str) (mean : ExcName → Option Value) (mg mb : Str → Option Value) (f : Addr) (news : List (Addr × Obj)) (vs : List Value) (dd : Nat) (Ret : Value → List (Addr × Obj) → Prop) : Prop :=
  ∀ (dp un : Nat) (gd : Option (List Code)) (cn : Str) (cs : Scope) (a : Addr) (ccd : Value) (cl : List (Str × Addr)) (outer : List Env) (A₀ : Around) (base h₀ : Heap) (L : Addr) (m : Str → Option Value) (s : Shared) (Q E : Value → Shared → Prop),
    Below A₀ base outer h₀ → Fr h₀ L s.heap m → (laid.heap_1 w.params).In h₀ → News h₀ L s.heap news → Top p loose mean mg mb h₀ → cs.kind = .function → dp + dd < recursionLimit → un + 8 * dd < cLine →
    (∀ r news' h' tk', Fr h₀ L h' m → News h₀ L h' news' → Ret r news' → Q r { s with heap := h', toks := tk' }) →
    wpAny (model PySem.Challenge.rw_ij0095_01.row.prog w) (ktrTop dp un gd cn cs L a ccd cl outer) (call (.ref f) vs) Q E s

noncomputable def IjEnd {σ : Type} (h₀ : Heap) (L : Addr) (s : Shared) (Led : σ → List (Addr × Obj)) (ps : σ → List (Str × Value)) (Inv : σ → Prop) (stored : List Str) (m₀ : Str → Option Value) (μ : σ → Nat) (c : σ) (s₂ : Shared) : Prop :=
  ∃ (c' : σ) (h' : Heap) (tk : Nat) (m' : Str → Option Value) (news' : List (Addr × Obj)), s₂ = { s with heap := h', toks := tk } ∧ Fr h₀ L h' m' ∧ News h₀ L h' news' ∧ (∀ p ∈ Led c', p ∈ news') ∧ (∀ p ∈ ps c', m' p.1 = some p.2) ∧ (∀ z, (∀ p ∈ ps c', z ≠ p.1) → stored.contains z = false → m' z = m₀ z) ∧ Inv c' ∧ μ c' < μ c
noncomputable def IjPost {σ : Type} (h₀ : Heap) (L : Addr) (s : Shared) (Led : σ → List (Addr × Obj)) (ps : σ → List (Str × Value)) (Inv : σ → Prop) (stored : List Str) (m₀ : Str → Option Value) (μ : σ → Nat) (Q : Flow → Shared → Prop) (c : σ) (f : Flow) (s₂ : Shared) : Prop :=
  match f with
  | .ret v => Q (.ret v) s₂
  | .brk => Q .next s₂
  | _ => IjEnd h₀ L s Led ps Inv stored m₀ μ c s₂
theorem ij_end {σ : Type} {h₀ : Heap} {L : Addr} {s : Shared} {Led : σ → List (Addr × Obj)} {ps : σ → List (Str × Value)} {Inv : σ → Prop} {stored : List Str} {m₀ m' : Str → Option Value} {μ : σ → Nat} {c : σ} {h' : Heap} {tk : Nat} {news' : List (Addr × Obj)} (c' : σ)
    (F : Fr h₀ L h' m') (N : News h₀ L h' news') (hn : ∀ p ∈ Led c', p ∈ news') (hk : ∀ p ∈ ps c', m' p.1 = some p.2) (hr : ∀ z, (∀ p ∈ ps c', z ≠ p.1) → stored.contains z = false → m' z = m₀ z) (hp : Inv c') (hm : μ c' < μ c) :
    IjEnd h₀ L s Led ps Inv stored m₀ μ c { s with heap := h', toks := tk } := ⟨c', h', tk, m', news', rfl, F, N, hn, hk, hr, hp, hm⟩
section
variable {prog : Program} {w : World} {A : Around} {E : Value → Shared → Prop} {Q : Flow → Shared → Prop} {s : Shared} {env : Env} {h₀ : Heap} {L : Addr}
theorem ij_while {σ : Type} {test : Expr} {body : List Stmt} {pos : Pos} {m₀ : Str → Option Value} {news : List (Addr × Obj)} (Led : σ → List (Addr × Obj)) (ps : σ → List (Str × Value)) (Inv : σ → Prop) (stored : List Str) (μ : σ → Nat) (c₀ : σ)
    (F : Fr h₀ L s.heap m₀) (N : News h₀ L s.heap news) (hn : ∀ p ∈ Led c₀, p ∈ news) (hk : ∀ p ∈ ps c₀, m₀ p.1 = some p.2) (hp : Inv c₀)
    (turn : ∀ (c : σ) (u : Str → Option Value) h tk, Inv c → Fr h₀ L h (kstB (fun z => if stored.contains z then u z else m₀ z) (ps c)) → News h₀ L h (Led c) →
      wpAny (model prog w) A (isTrue test env (eval test env)) (fun b s₂ =>
        if b = true then wpAny (model prog w) A (execs body env) (IjPost h₀ L s Led ps Inv stored m₀ μ Q c) E s₂ else Q .next s₂) E { s with heap := h, toks := tk })
    (hE : PassesOwn (model prog w) A env E) :
    wpAny (model prog w) A (exec (.While test body [] pos) env) Q E s := by
  refine While_inv2 (fun n m nx => ∃ c : σ, nx = Led c ∧ μ c = n ∧ (∀ p ∈ ps c, m p.1 = some p.2) ∧ (∀ z, (∀ p ∈ ps c, z ≠ p.1) → stored.contains z = false → m z = m₀ z) ∧ Inv c) F (fun p hp => N p (hn p hp)) ⟨c₀, rfl, rfl, hk, fun _ _ _ => rfl, hp⟩ ?_ hE
  rintro n m₁ nx h tk F₁ N₁ ⟨c, hnx, hsz, h1, h2, hp'⟩
  rw [hnx] at N₁
  rw [← hsz]
  refine wpAny_mono (turn c m₁ h tk hp' (ksw_fr h1 h2 F₁) N₁) (fun b s₂ p => ?_) fun _ _ x => x
  cases b with
  | false => simpa using p
  | true =>
    simp only [if_true] at p ⊢
    refine wpAny_mono p (fun f s₃ q => ?_) fun _ _ x => x
    cases f with
    | ret v => exact q
    | brk => exact q
    | next =>
      obtain ⟨c', h', tk', m', news', rfl, F', N', hn, hk9, hr9, hp9, hm9⟩ := q
      exact ⟨h', tk', m', Led c', μ c', rfl, F', fun p hp => N' p (hn p hp), hm9, c', rfl, rfl, hk9, hr9, hp9⟩
    | cont =>
      obtain ⟨c', h', tk', m', news', rfl, F', N', hn, hk9, hr9, hp9, hm9⟩ := q
      exact ⟨h', tk', m', Led c', μ c', rfl, F', fun p hp => N' p (hn p hp), hm9, c', rfl, rfl, hk9, hr9, hp9⟩
end

section
variable {prog : Program} {w : World} {A : Around} {E : Value → Shared → Prop} {s : Shared} {h₀ : Heap} {L : Addr} {m : Str → Option Value} {news : List (Addr × Obj)}
theorem ij_add {l b : Addr} {vs ws : List Value} {n k : Nat} {Q : Value → Shared → Prop} (F : Fr h₀ L s.heap m) (N : News h₀ L s.heap news) (hl : (l, listOf vs.toArray n) ∈ news) (hb : (b, listOf ws.toArray k) ∈ news)
    (hsz : vs.length + ws.length ≤ 100000)
    (h : ∀ D h', Fr h₀ L h' m → News h₀ L h' ((D, listOf (vs ++ ws).toArray 0) :: news) → (∀ p ∈ news, p.1 < D) → Q (.ref D) { s with heap := h' }) :
    wpAny (model prog w) A (binaryOp .Add (.ref l) (.ref b)) Q E s :=
  add_arrays F N (its := vs.toArray) (its2 := ws.toArray) ⟨_, N.get hl, rfl, _, rfl⟩ ⟨_, N.get hb, rfl, _, rfl⟩ (fun h' F' N' => h _ h' F' (by simpa using N') fun p hp => Heap.lt_size (N p hp).1)
    (hsz := by rw [sizeLine_eq]; simp only [List.size_toArray]; omega)
end


theorem calls_use {w : World} {p : Program} {loose : List Str} {mean : ExcName → Option Value} {mg mb : Str → Option Value} {f : Addr} {news : List (Addr × Obj)} {vs : List Value} {dd : Nat} {Ret : Value → List (Addr × Obj) → Prop}
    {dp un : Nat} {gd : Option (List Code)} {cn : Str} {cs : Scope} {a : Addr} {ccd : Value} {cl : List (Str × Addr)} {outer : List Env} {A₀ : Around} {base h₀ : Heap} {L : Addr} {m : Str → Option Value} {s : Shared} {Q E : Value → Shared → Prop}
    (C : Calls w p loose mean mg mb f news vs dd Ret) (B : Below A₀ base outer h₀) (F : Fr h₀ L s.heap m) (X : (laid.heap_1 w.params).In h₀) (N : News h₀ L s.heap news) (T : Top p loose mean mg mb h₀) (hk : cs.kind = .function) (hd : dp + dd < recursionLimit) (hu : un + 8 * dd < cLine)
    (ret : ∀ r news' h' tk', Fr h₀ L h' m → News h₀ L h' news' → Ret r news' → Q r { s with heap := h', toks := tk' }) :
    wpAny (model PySem.Challenge.rw_ij0095_01.row.prog w) (ktrTop dp un gd cn cs L a ccd cl outer) (call (.ref f) vs) Q E s := C _ _ _ _ _ _ _ _ _ _ _ _ _ _ _ _ _ B F X N T hk hd hu ret


section
variable {prog : Program} {w : World} {A : Around} {E : Value → Shared → Prop} {s : Shared} {Q : Value → Shared → Prop}
theorem ij_item {value slice : Expr} {L : List Nat} {c : Nat} {t : Tok} {i : Int} {u : Tok} (h0 : 0 ≤ i) (hlen : L.length ≤ 100000) (hc : L[i.toNat]? = some c)
    (h : Q (.str ⟨#[c]⟩ s.toks) { s with toks := s.toks + 1 })
    (hs : subscripted slice false (.str ⟨L.toArray⟩ t) (.int i u) = operate [.str ⟨L.toArray⟩ t, .int i u] (getItem (.str ⟨L.toArray⟩ t) (.int i u)) := by with_unfolding_all rfl)
    (ht : ∀ r, letTemporaryGo value (.str ⟨L.toArray⟩ t) r = pure () := by intro _; with_unfolding_all rfl) :
    wpAny (model prog w) A (subscriptTail value slice (.str ⟨L.toArray⟩ t) (.int i u)) Q E s := by
  have hi : i.toNat < L.length := (List.getElem?_eq_some_iff.mp hc).1
  have hx : (⟨L.toArray⟩ : Str).length = L.length := rfl
  have hit : Txt.item ⟨L.toArray⟩ i = ⟨#[c]⟩ := by
    have e0 : seqIndex? i L.length = some i.toNat := by
      unfold seqIndex?
      simp only [show ¬ i < 0 by omega, if_false]
      rw [if_pos (by simp; omega)]
    unfold Txt.item Txt.charAt
    rw [hx, e0]
    simp [hc]
  refine item_str (fitsSsize_of (N := 9223372036854775808) (by omega) (by omega) (Int.le_refl _)) (by omega) (by rw [hx]; omega) (fun _ => ?_) hs ht
  rw [hit]; exact h
theorem ij_eqL {c d : Nat} {y : Str} {t u : Tok} (hy : y = ⟨#[d]⟩) (h : Q (.bool (decide (c = d))) s) : wpAny (model prog w) A (compareOp .Eq (.str ⟨#[c]⟩ t) (.str y u)) Q E s := by
  subst hy
  refine PyProof.Rows.eq_str ?_
  have e : ((⟨#[c]⟩ : Str) == ⟨#[d]⟩) = decide (c = d) := by
    by_cases h : c = d
    · subst h; simp
    · have : (⟨#[c]⟩ : Str) ≠ ⟨#[d]⟩ := fun e => h (by injection e with e; injection e with e; injection e)
      simp [h, this]
  rw [e]; exact h
theorem ij_neL {c d : Nat} {y : Str} {t u : Tok} (hy : y = ⟨#[d]⟩) (h : Q (.bool (decide (c ≠ d))) s) : wpAny (model prog w) A (compareOp .NotEq (.str ⟨#[c]⟩ t) (.str y u)) Q E s := by
  subst hy
  refine PySem.P.ne_str ?_
  have e : ((⟨#[c]⟩ : Str).cps.toList != (⟨#[d]⟩ : Str).cps.toList) = decide (c ≠ d) := by
    by_cases h : c = d
    · subst h; simp
    · simp [h, bne]
  rw [e]; exact h
theorem ij_eqF {x y : Str} {t u : Tok} (hy : x = y) (h : Q (.bool true) s) : wpAny (model prog w) A (compareOp .Eq (.str x t) (.str y u)) Q E s := by
  subst hy
  refine PyProof.Rows.eq_str ?_
  simpa using h
end
section
variable {prog : Program} {w : World} {A : Around} {E : Value → Shared → Prop} {Q : Flow → Shared → Prop} {s : Shared} {env : Env} {h₀ : Heap} {L : Addr}
theorem ij_whileL {σ : Type} {test : Expr} {body : List Stmt} {pos : Pos} {m₀ : Str → Option Value} {sg : Addr} {o₀ : Obj} {rest : List (Addr × Obj)} (O : σ → Obj) (ps : σ → List (Str × Value)) (Inv : σ → Prop) (stored : List Str) (μ : σ → Nat) (c₀ : σ)
    (F : Fr h₀ L s.heap m₀) (N : News h₀ L s.heap ((sg, o₀) :: rest)) (ho : O c₀ = o₀) (hk : ∀ p ∈ ps c₀, m₀ p.1 = some p.2) (hp : Inv c₀)
    (turn : ∀ (c : σ) (u : Str → Option Value) h tk, Inv c → Fr h₀ L h (kstB (fun z => if stored.contains z then u z else m₀ z) (ps c)) → News h₀ L h ((sg, O c) :: rest) →
      wpAny (model prog w) A (isTrue test env (eval test env)) (fun b s₂ =>
        if b = true then wpAny (model prog w) A (execs body env) (IjPost h₀ L s (fun c => (sg, O c) :: rest) ps Inv stored m₀ μ Q c) E s₂ else Q .next s₂) E { s with heap := h, toks := tk })
    (hE : PassesOwn (model prog w) A env E) :
    wpAny (model prog w) A (exec (.While test body [] pos) env) Q E s :=
  ij_while (fun c => (sg, O c) :: rest) ps Inv stored μ c₀ F N (fun p hp => by rw [ho] at hp; exact hp) hk hp turn hE
end
theorem off_of_lt {d : Addr} {l : List (Addr × Obj)} (h : AllLt d l) : OwnOff l [d] := by
  have key : ∀ l : List (Addr × Obj), AllLt d l → ∀ p ∈ l, p.1 < d := by
    intro l
    induction l with
    | nil => exact fun _ _ hp => nomatch hp
    | cons q r ih =>
      intro h p hp
      rcases List.mem_cons.mp hp with rfl | hp
      · exact h.1
      · exact ih h.2 p hp
  intro p hp b hb
  rw [List.mem_singleton.mp hb]
  exact Nat.ne_of_lt (key l h p hp)

section
variable {prog : Program} {w : World} {A : Around} {E : Value → Shared → Prop} {s : Shared} {h₀ : Heap} {L : Addr} {news : List (Addr × Obj)} {Q : Value → Shared → Prop}
theorem ij_eqNil1 {l b : Addr} {vs : List Value} {n k : Nat} (N : News h₀ L s.heap news) (hl : (l, listOf vs.toArray n) ∈ news) (hb : (b, listOf (List.toArray []) k) ∈ news) (hne : vs ≠ []) (hu : A.units < cLine) (h : Q (.bool false) s) :
    wpAny (model prog w) A (compareOp .Eq (.ref l) (.ref b)) Q E s :=
  PySem.SeqAt.eq_list_lengthsAt (items := vs.toArray) (items2 := #[]) ⟨_, N.get hl, rfl, _, rfl⟩ ⟨_, N.get hb, rfl, _, rfl⟩ (by cases vs with | nil => exact absurd rfl hne | cons v vs => simp) hu h
theorem ij_eqNil0 {l b : Addr} {n k : Nat} (N : News h₀ L s.heap news) (hl : (l, listOf (List.toArray []) n) ∈ news) (hb : (b, listOf (List.toArray []) k) ∈ news) (hu : A.units < cLine) (h : Q (.bool true) s) :
    wpAny (model prog w) A (compareOp .Eq (.ref l) (.ref b)) Q E s :=
  PySem.SeqAt.eq_listAt (items := #[]) (items2 := #[]) (e := fun _ => true) ⟨_, N.get hl, rfl, _, rfl⟩ ⟨_, N.get hb, rfl, _, rfl⟩ rfl hu (fun j h1 => absurd h1 (Nat.not_lt_zero _)) h
end
theorem off_cons {d : Addr} {l : List (Addr × Obj)} {adr : List Addr} (h : AllLt d l) (k : OwnOff l adr) : OwnOff l (d :: adr) := by
  intro p hp b hb
  rcases List.mem_cons.mp hb with rfl | hb
  · exact off_of_lt h p hp _ (.head _)
  · exact k p hp b hb
section
variable {prog : Program} {w : World} {A : Around} {E : Value → Shared → Prop} {s : Shared} {h₀ : Heap} {L : Addr} {news : List (Addr × Obj)} {Q : Value → Shared → Prop}
theorem ij_len {l : Addr} {vs : List Value} {n : Nat} (N : News h₀ L s.heap news) (hl : (l, listOf vs.toArray n) ∈ news) (hsz : vs.length ≤ 100000) (h : Q (.int (vs.length : Int) (s.toks + 1)) { s with toks := s.toks + 1 + 1 }) :
    wpAny (model prog w) A (call (.builtin "len") [.ref l]) Q E s :=
  len_list (items := vs.toArray) ⟨_, N.get hl, rfl, _, rfl⟩ (by simp only [List.size_toArray]; omega) (by simpa using h)
theorem ij_itemL {l : Addr} {vs : List Value} {n : Nat} {value slice : Expr} {k : Int} {u : Tok} {v : Value} (N : News h₀ L s.heap news) (hl : (l, listOf vs.toArray n) ∈ news) (h0 : 0 ≤ k) (hsz : k ≤ 100000) (hx : vs[k.toNat]? = some v) (h : Q v s)
    (hs : subscripted slice false (.ref l) (.int k u) = operate [.ref l, .int k u] (getItem (.ref l) (.int k u)) := by with_unfolding_all rfl) (hg : ∀ r, letTemporaryGo value (.ref l) r = pure () := by intro _; with_unfolding_all rfl) :
    wpAny (model prog w) A (subscriptTail value slice (.ref l) (.int k u)) Q E s :=
  item_list (items := vs.toArray) ⟨_, N.get hl, rfl, _, rfl⟩ h0 (by omega) (by simpa using hx) h hs hg
theorem ij_join {l : Addr} {vs : List Value} {n : Nat} {ys : List Str} {x : Str} {t : Tok} (N : News h₀ L s.heap news) (hl : (l, listOf vs.toArray n) ∈ news) (hi : StrsAre vs ys) (hok : (ys.map (·.length)).sum + ys.length * x.length ≤ 16777216)
    {y : Str} (hj : Txt.join x ys = y) (h : ∀ t' k, Q (.str y t') { s with toks := k }) : wpAny (model prog w) A (call (.builtin "str.join") [.str x t, .ref l]) Q E s :=
  join_list (items := vs.toArray) ⟨_, N.get hl, rfl, _, rfl⟩ (by simpa using hi) hok (by rw [hj]; exact h)
end
end
open PySem PySem.W PyProof.Rows PySem.Spec PySem.Calls
local macro_rules | `(tactic| walk_at "ij hide") => `(tactic| (rename Fr _ _ _ _ => lFx))
local macro_rules | `(tactic| walk_at "ij lift") => `(tactic| (rename Below _ _ _ _ => lB; try k_lift lB))
local macro_rules | `(tactic| walk_at "ij mem") => `(tactic| first | exact List.Mem.head _ | assumption | (refine List.mem_cons_of_mem _ ?_; walk_at "ij mem"))
section
open PySem PySem.W PyProof.Rows
noncomputable abbrev tx (l : List Nat) : Str := ⟨l.toArray⟩
noncomputable def uSigns (n : Int) : List Nat :=
  if n = 127 then [94, 63] else if n % 128 < 32 then [94, (n % 128).toNat + 64] else if n % 128 = 127 then [94, 159] else [(n % 128).toNat]
noncomputable def uText (n : Int) : List Nat := if n / 128 % 2 = 1 then 33 :: uSigns n else uSigns n
noncomputable def altOf (n : Int) : Int := if n / 128 % 2 = 1 then n else n + 128
theorem and127 (n : Int) : Builtin.bitAnd n 127 = n % 128 := kbt_mask n 7
theorem and128 (n : Int) : Builtin.bitAnd n 128 = n / 128 % 2 * 128 := kbt_bit n 7
theorem or128 (n : Int) : Builtin.bitOr n 128 = altOf n := by
  rw [bitOr_and, and128]
  unfold altOf
  split <;> omega
theorem or32 (n : Int) : Builtin.bitOr n 32 = n + (if n / 32 % 2 = 1 then 0 else 32) := by
  rw [bitOr_and, show Builtin.bitAnd n 32 = n / 32 % 2 * 32 from kbt_bit n 5]
  split <;> omega
theorem chr_room (n : Int) : 64 ≤ Builtin.bitOr (Builtin.bitAnd n 127) 32 + 32 ∧ Builtin.bitOr (Builtin.bitAnd n 127) 32 + 32 ≤ 160 := by
  rw [and127, or32]
  split <;> omega
theorem s_bang : Str.ofString "!" = tx [33] := by decide +kernel
theorem s_hat : Str.ofString "^" = tx [94] := by decide +kernel
theorem s_hatq : Str.ofString "^?" = tx [94, 63] := by decide +kernel
theorem tx_app (a b : List Nat) : tx a ++ tx b = tx (a ++ b) := Str.ext' (by rw [Str.cps_append]; simp [tx])
theorem tx_one (n : Nat) : (⟨#[n]⟩ : Str) = tx [n] := rfl
section
variable {n : Int}
theorem uw_b (h0 : n = 127) : Str.ofString "^?" = tx (uText n) := by subst h0; exact s_hatq
theorem uw_a (h0 : n = 127) (h1 : Builtin.bitAnd n 128 ≠ 0) : Str.ofString "!" ++ Str.ofString "^?" = tx (uText n) := by subst h0; exact absurd (by decide +kernel) h1
theorem uw_c (h0 : n ≠ 127) (h1 : 32 ≤ Builtin.bitAnd n 127) (h2 : Builtin.bitAnd n 127 ≤ 126) (h3 : Builtin.bitAnd n 128 ≠ 0) : Str.ofString "!" ++ ⟨#[(Builtin.bitAnd n 127).toNat]⟩ = tx (uText n) := by
  rw [and127] at *; rw [and128] at h3
  rw [s_bang, tx_one, tx_app, uText, if_pos (by omega), uSigns, if_neg h0, if_neg (by omega), if_neg (by omega)]; rfl
theorem uw_d (h0 : n ≠ 127) (h1 : 32 ≤ Builtin.bitAnd n 127) (h2 : Builtin.bitAnd n 127 ≤ 126) (h3 : Builtin.bitAnd n 128 = 0) : (⟨#[(Builtin.bitAnd n 127).toNat]⟩ : Str) = tx (uText n) := by
  rw [and127] at *; rw [and128] at h3
  rw [tx_one, uText, if_neg (by omega), uSigns, if_neg h0, if_neg (by omega), if_neg (by omega)]
theorem uw_low (h1 : ¬ 32 ≤ Builtin.bitAnd n 127) : (Builtin.bitOr (Builtin.bitAnd n 127) 32 + 32).toNat = (n % 128).toNat + 64 := by
  rw [and127] at *; rw [or32, if_neg (by omega)]; omega
theorem uw_top (h1 : ¬ Builtin.bitAnd n 127 ≤ 126) : (Builtin.bitOr (Builtin.bitAnd n 127) 32 + 32).toNat = 159 := by
  rw [and127] at *; rw [or32, if_pos (by omega)]; omega
theorem uw_e (h0 : n ≠ 127) (h1 : ¬ 32 ≤ Builtin.bitAnd n 127) (h3 : Builtin.bitAnd n 128 ≠ 0) : Str.ofString "!" ++ (Str.ofString "^" ++ ⟨#[(Builtin.bitOr (Builtin.bitAnd n 127) 32 + 32).toNat]⟩) = tx (uText n) := by
  rw [uw_low h1]; rw [and127] at *; rw [and128] at h3
  rw [s_bang, s_hat, tx_one, tx_app, tx_app, uText, if_pos (by omega), uSigns, if_neg h0, if_pos (by omega)]; rfl
theorem uw_f (h0 : n ≠ 127) (h1 : ¬ 32 ≤ Builtin.bitAnd n 127) (h3 : Builtin.bitAnd n 128 = 0) : Str.ofString "^" ++ ⟨#[(Builtin.bitOr (Builtin.bitAnd n 127) 32 + 32).toNat]⟩ = tx (uText n) := by
  rw [uw_low h1]; rw [and127] at *; rw [and128] at h3
  rw [s_hat, tx_one, tx_app, uText, if_neg (by omega), uSigns, if_neg h0, if_pos (by omega)]; rfl
theorem uw_g (h0 : n ≠ 127) (h1 : ¬ Builtin.bitAnd n 127 ≤ 126) (h3 : Builtin.bitAnd n 128 ≠ 0) : Str.ofString "!" ++ (Str.ofString "^" ++ ⟨#[(Builtin.bitOr (Builtin.bitAnd n 127) 32 + 32).toNat]⟩) = tx (uText n) := by
  rw [uw_top h1]; rw [and127] at *; rw [and128] at h3
  rw [s_bang, s_hat, tx_one, tx_app, tx_app, uText, if_pos (by omega), uSigns, if_neg h0, if_neg (by omega), if_pos (by omega)]; rfl
theorem uw_h (h0 : n ≠ 127) (h1 : ¬ Builtin.bitAnd n 127 ≤ 126) (h3 : Builtin.bitAnd n 128 = 0) : Str.ofString "^" ++ ⟨#[(Builtin.bitOr (Builtin.bitAnd n 127) 32 + 32).toNat]⟩ = tx (uText n) := by
  rw [uw_top h1]; rw [and127] at *; rw [and128] at h3
  rw [s_hat, tx_one, tx_app, uText, if_neg (by omega), uSigns, if_neg h0, if_neg (by omega), if_pos (by omega)]; rfl
end

noncomputable abbrev Pc := Bool × List Nat
noncomputable def sgD (l : List Nat) : Dat := .list (l.map fun (k : Nat) => Dat.int (k : Int))
noncomputable def pcD (p : Pc) : Dat := .list [.bool p.1, sgD p.2]
noncomputable def pcsD (ps : List Pc) : Dat := .list (ps.map pcD)
theorem dat_ints {news : List (Addr × Obj)} : ∀ {vs : List Value} {l : List Nat}, IntsAre vs (l.map fun (k : Nat) => (k : Int)) → DatAll news vs (l.map fun (k : Nat) => Dat.int (k : Int))
  | [], [], _ => .nil
  | [], _ :: _, h => by cases h
  | _ :: _, [], h => by cases h
  | _ :: _, _ :: _, h => by cases h with | cons n t r => exact .cons (.int _ _) (dat_ints r)
noncomputable def dueFrom : List Int → List Pc
  | [] => []
  | n :: rest =>
    if n % 256 = 33 then match rest with
      | [] => [(false, [91]), (false, [33]), (false, [93])]
      | m :: rest' =>
        let signs := [93, 91] ++ (if m / 128 % 2 = 1 then [33] else []) ++ uSigns m
        if m % 128 = 29 ∨ m % 128 = 93 then (true, signs.dropLast) :: (false, [93]) :: dueFrom rest' else (true, signs) :: dueFrom rest'
    else if n % 128 = 29 then (decide (n / 128 % 2 = 1), (uSigns n).dropLast) :: (false, [93]) :: dueFrom rest
    else (decide (n / 128 % 2 = 1), uSigns n) :: dueFrom rest

theorem fm {n : Int} (k : Int) (h : 0 ≤ k) : n.fmod k = n % k := Int.fmod_eq_emod_of_nonneg _ h
theorem fd {n : Int} (k : Int) (h : 0 ≤ k) : n.fdiv k = n / k := Int.fdiv_eq_ediv_of_nonneg _ h
theorem drop_at {row : List Int} {k : Int} (h0 : 0 ≤ k) (h : k < row.length) : row.drop k.toNat = row.getD k.toNat 0 :: row.drop (k + 1).toNat := by
  have hk : k.toNat < row.length := by omega
  rw [show (k + 1).toNat = k.toNat + 1 by omega, List.drop_eq_getElem_cons hk]
  simp [hk]
theorem dat_pc {nw : List (Addr × Obj)} {b : Bool} {l s : Addr} {us : List Value} {n k : Nat} {sg : List Nat} (h1 : (l, listOf (List.toArray [.bool b, .ref s]) n) ∈ nw) (h2 : (s, listOf us.toArray k) ∈ nw) (h3 : IntsAre us (sg.map fun (k : Nat) => (k : Int))) :
    DatIn nw (.ref l) (pcD (b, sg)) := .list h1 (.cons (.bool _) (.one (.list h2 (dat_ints h3))))
section
variable {row : List Int} {k : Int} (h0 : 0 ≤ k) (h : k < row.length)
include h0 h
theorem due_last (h1 : (row.getD k.toNat 0).fmod 256 = 33) (h2 : k + 1 = row.length) : dueFrom (row.drop k.toNat) = [(false, [91]), (false, [33]), (false, [93])] := by
  rw [fm _ (by decide)] at h1
  rw [drop_at h0 h, List.drop_of_length_le (by omega), dueFrom, if_pos h1]
theorem due_two (h1 : (row.getD k.toNat 0).fmod 256 = 33) (h2 : k + 1 < row.length) {sg : List Nat} (hs : sg = [93, 91] ++ (if row.getD (k + 1).toNat 0 / 128 % 2 = 1 then [33] else []) ++ uSigns (row.getD (k + 1).toNat 0)) :
    dueFrom (row.drop k.toNat) = (if row.getD (k + 1).toNat 0 % 128 = 29 ∨ row.getD (k + 1).toNat 0 % 128 = 93 then [(true, sg.dropLast), (false, [93])] else [(true, sg)]) ++ dueFrom (row.drop (k + 1 + 1).toNat) := by
  rw [fm _ (by decide)] at h1
  rw [drop_at h0 h, drop_at (k := k + 1) (by omega) (by omega), dueFrom, if_pos h1]
  dsimp only
  rw [← hs]
  split <;> rfl
theorem due_one (h1 : (row.getD k.toNat 0).fmod 256 ≠ 33) : dueFrom (row.drop k.toNat) =
    (if row.getD k.toNat 0 % 128 = 29 then [(decide (row.getD k.toNat 0 / 128 % 2 = 1), (uSigns (row.getD k.toNat 0)).dropLast), (false, [93])] else [(decide (row.getD k.toNat 0 / 128 % 2 = 1), uSigns (row.getD k.toNat 0))]) ++ dueFrom (row.drop (k + 1).toNat) := by
  rw [fm _ (by decide)] at h1
  rw [drop_at h0 h]
  conv => lhs; rw [dueFrom.eq_def]
  simp only [if_neg h1]
  split <;> rfl
end

theorem ints_drop {ws : List Value} {sg : List Nat} {L : List Int} (h : IntsAre ws (List.take (L.length - 1) L)) (e : L = sg.map fun (k : Nat) => (k : Int)) : IntsAre ws (sg.dropLast.map fun (k : Nat) => (k : Int)) := by
  subst e
  rw [← List.dropLast_eq_take] at h
  rwa [List.map_dropLast]
section
variable {row : List Int} {k : Int} (h0 : 0 ≤ k) (h : k < row.length)
include h0 h
theorem shut_two {y : Int} : ([29, 93].any fun x => x == y.fmod 128) = true ↔ (y % 128 = 29 ∨ y % 128 = 93) := by
  rw [fm _ (by decide)]
  simp only [List.any_cons, List.any_nil, Bool.or_false, Bool.or_eq_true, beq_iff_eq]
  constructor <;> rintro (h | h) <;> omega
theorem shut_one {y : Int} : ([29].any fun x => x == y.fmod 128) = true ↔ y % 128 = 29 := by
  rw [fm _ (by decide)]
  simp only [List.any_cons, List.any_nil, Bool.or_false, beq_iff_eq]
  omega
theorem two_a (h1 : (row.getD k.toNat 0).fmod 256 = 33) (h2 : k + 1 ≠ row.length) (h3 : ((row.getD (k + 1).toNat 0).fdiv 128).fmod 2 = 1) (h4 : ([29, 93].any fun x => x == (row.getD (k + 1).toNat 0).fmod 128) = true) :
    dueFrom (row.drop k.toNat) = [(true, ([93, 91] ++ [33] ++ uSigns (row.getD (k + 1).toNat 0)).dropLast), (false, [93])] ++ dueFrom (row.drop (k + 1 + 1).toNat) := by
  rw [fd _ (by decide), fm _ (by decide)] at h3
  rw [due_two h0 h h1 (by omega) rfl, if_pos ((shut_two h0 h).mp h4), if_pos h3]
theorem two_b (h1 : (row.getD k.toNat 0).fmod 256 = 33) (h2 : k + 1 ≠ row.length) (h3 : ((row.getD (k + 1).toNat 0).fdiv 128).fmod 2 = 1) (h4 : ([29, 93].any fun x => x == (row.getD (k + 1).toNat 0).fmod 128) = false) :
    dueFrom (row.drop k.toNat) = [(true, ([93, 91] ++ [33] ++ uSigns (row.getD (k + 1).toNat 0)))] ++ dueFrom (row.drop (k + 1 + 1).toNat) := by
  rw [fd _ (by decide), fm _ (by decide)] at h3
  rw [due_two h0 h h1 (by omega) rfl, if_neg fun e => Bool.false_ne_true (h4.symm.trans ((shut_two h0 h).mpr e)), if_pos h3]
theorem two_c (h1 : (row.getD k.toNat 0).fmod 256 = 33) (h2 : k + 1 ≠ row.length) (h3 : ((row.getD (k + 1).toNat 0).fdiv 128).fmod 2 ≠ 1) (h4 : ([29, 93].any fun x => x == (row.getD (k + 1).toNat 0).fmod 128) = true) :
    dueFrom (row.drop k.toNat) = [(true, ([93, 91] ++ [] ++ uSigns (row.getD (k + 1).toNat 0)).dropLast), (false, [93])] ++ dueFrom (row.drop (k + 1 + 1).toNat) := by
  rw [fd _ (by decide), fm _ (by decide)] at h3
  rw [due_two h0 h h1 (by omega) rfl, if_pos ((shut_two h0 h).mp h4), if_neg h3]
theorem two_d (h1 : (row.getD k.toNat 0).fmod 256 = 33) (h2 : k + 1 ≠ row.length) (h3 : ((row.getD (k + 1).toNat 0).fdiv 128).fmod 2 ≠ 1) (h4 : ([29, 93].any fun x => x == (row.getD (k + 1).toNat 0).fmod 128) = false) :
    dueFrom (row.drop k.toNat) = [(true, ([93, 91] ++ [] ++ uSigns (row.getD (k + 1).toNat 0)))] ++ dueFrom (row.drop (k + 1 + 1).toNat) := by
  rw [fd _ (by decide), fm _ (by decide)] at h3
  rw [due_two h0 h h1 (by omega) rfl, if_neg fun e => Bool.false_ne_true (h4.symm.trans ((shut_two h0 h).mpr e)), if_neg h3]
theorem bar_is (x : Int) : decide (x / 128 % 2 = 1) = ((x.fdiv 128).fmod 2 == 1) := by
  rw [fd _ (by decide), fm _ (by decide)]
  rfl
theorem one_a (h1 : (row.getD k.toNat 0).fmod 256 ≠ 33) (h4 : ([29].any fun x => x == (row.getD k.toNat 0).fmod 128) = true) :
    dueFrom (row.drop k.toNat) = [((((row.getD k.toNat 0).fdiv 128).fmod 2 == 1), (uSigns (row.getD k.toNat 0)).dropLast), (false, [93])] ++ dueFrom (row.drop (k + 1).toNat) := by
  rw [due_one h0 h h1, if_pos ((shut_one h0 h).mp h4), bar_is h0 h]
theorem one_b (h1 : (row.getD k.toNat 0).fmod 256 ≠ 33) (h4 : ([29].any fun x => x == (row.getD k.toNat 0).fmod 128) = false) :
    dueFrom (row.drop k.toNat) = [((((row.getD k.toNat 0).fdiv 128).fmod 2 == 1), uSigns (row.getD k.toNat 0))] ++ dueFrom (row.drop (k + 1).toNat) := by
  rw [due_one h0 h h1, if_neg fun e => Bool.false_ne_true (h4.symm.trans ((shut_one h0 h).mpr e)), bar_is h0 h]
end

structure TP where
  inside : Bool
  turned : Bool
  toks : List (Bool × Nat)
noncomputable def tokT (t : Bool × Nat) : List Nat := if t.1 then [92, t.2] else [t.2]
noncomputable def toksT (ts : List (Bool × Nat)) : List Nat := ts.flatMap tokT
noncomputable def TP.text (p : TP) : List Nat := if p.inside then 91 :: ((if p.turned then [94] else []) ++ (toksT p.toks ++ [93])) else toksT p.toks
noncomputable def TP.pc (p : TP) : Pc := (p.turned, p.toks.map (·.2))
structure TP.Ok (p : TP) : Prop where
  some : p.toks ≠ []
  bare : ∀ t ∈ p.toks, t.1 = false → t.2 ≠ 92
  tail : p.inside = true → ∀ t ∈ p.toks.tail, t.1 = false → t.2 ≠ 93
  first : p.inside = true → p.turned = false → ∀ t ∈ p.toks.head?, t.1 = false → t.2 ≠ 94
  out : p.inside = false → p.turned = false ∧ p.toks.length = 1 ∧ ∀ t ∈ p.toks.head?, t.1 = false → t.2 ≠ 91
noncomputable def psT (ps : List TP) : List Nat := ps.flatMap TP.text
noncomputable def frameT (ps : List TP) : List Nat := [40, 63, 115, 58] ++ (psT ps ++ [41, 92, 90])
theorem toksT_cons (t : Bool × Nat) (ts : List (Bool × Nat)) : toksT (t :: ts) = tokT t ++ toksT ts := by simp [toksT]
theorem toksT_app (a b : List (Bool × Nat)) : toksT (a ++ b) = toksT a ++ toksT b := by simp [toksT]
theorem psT_cons (p : TP) (ps : List TP) : psT (p :: ps) = p.text ++ psT ps := by simp [psT]
theorem psT_app (a b : List TP) : psT (a ++ b) = psT a ++ psT b := by simp [psT]
theorem TP.text_pos {p : TP} (h : p.Ok) : 0 < p.text.length := by
  unfold TP.text
  split
  · simp
  · cases e : p.toks with
    | nil => exact absurd e h.some
    | cons t ts => rw [toksT_cons, List.length_append]; unfold tokT; split <;> simp <;> omega
/-- the sign j places behind where the text reads mid -/
theorem ch_at {L pre mid : List Nat} {k : Int} (e : L = pre ++ mid) (hk : k = pre.length) (j : Nat) {c : Nat} (hc : mid[j]? = some c) : L[(k + j).toNat]? = some c := by
  subst e hk
  rw [show ((pre.length : Int) + (j : Int)).toNat = pre.length + j by omega, List.getElem?_append_right (by omega), Nat.add_sub_cancel_left]
  exact hc
theorem ch_0 {L pre mid : List Nat} {k : Int} (e : L = pre ++ mid) (hk : k = pre.length) {c : Nat} (hc : mid[0]? = some c) : L[k.toNat]? = some c := by
  have := ch_at e hk 0 hc
  simpa using this
theorem ch_1 {L pre mid : List Nat} {k : Int} (e : L = pre ++ mid) (hk : k = pre.length) {c : Nat} (hc : mid[1]? = some c) : L[(k + 1).toNat]? = some c := ch_at e hk 1 hc
theorem slice_ss {L : List Nat} {i j : Int} (h : 0 ≤ i ∧ i ≤ j ∧ j ≤ L.length) : Txt.slice ⟨L.toArray⟩ (some i) (some j) = ⟨((L.drop i.toNat).take (j - i).toNat).toArray⟩ := eq_of_beq (slice_closes h)
theorem slice_head {L : List Nat} (h : 4 ≤ L.length) : Txt.slice ⟨L.toArray⟩ none (some 4) = ⟨(L.take 4).toArray⟩ := eq_of_beq (slice_closes_to (x := ⟨L.toArray⟩) (j := 4) (by simp; omega))
theorem s_open : Str.ofString "(?s:" = tx [40, 63, 115, 58] := by decide +kernel
theorem s_shut : Str.ofString ")\\Z" = tx [41, 92, 90] := by decide +kernel
theorem fr_len (ps : List TP) : (frameT ps).length = 7 + (psT ps).length := by simp [frameT]; omega
theorem fr_head (ps : List TP) : Txt.slice ⟨(frameT ps).toArray⟩ none (some 4) = Str.ofString "(?s:" := by
  rw [slice_head (by rw [fr_len]; omega), s_open, frameT]
  rfl
theorem fr_tail (ps : List TP) : Txt.slice ⟨(frameT ps).toArray⟩ (some (-3)) none = Str.ofString ")\\Z" := by
  have hl : (⟨(frameT ps).toArray⟩ : Str).length = 7 + (psT ps).length := fr_len ps
  rw [eq_of_beq (slice_closes_from_neg (x := ⟨(frameT ps).toArray⟩) (i := -3) (a := 4 + (psT ps).length) (b := 7 + (psT ps).length) (by decide) (by rw [hl]; omega) (by rw [hl]; omega) (by rw [hl]; omega)), s_shut]
  show (⟨((((frameT ps).toArray).toList.drop (4 + ((psT ps).length : Int)).toNat).take _).toArray⟩ : Str) = _
  have e1 : (4 + ((psT ps).length : Int)).toNat = ([40, 63, 115, 58] ++ psT ps).length := by simp; omega
  have e2 : ((7 + ((psT ps).length : Int)) - (4 + (psT ps).length)).toNat = 3 := by omega
  rw [e1, e2, frameT, ← List.append_assoc, List.toList_toArray, List.drop_left]
  rfl
theorem o_lb : Str.ofString "[" = ⟨#[91]⟩ := by decide +kernel
theorem o_rb : Str.ofString "]" = ⟨#[93]⟩ := by decide +kernel
theorem o_hat : Str.ofString "^" = ⟨#[94]⟩ := by decide +kernel
theorem o_bang : Str.ofString "!" = ⟨#[33]⟩ := by decide +kernel
theorem o_star : Str.ofString "*" = ⟨#[42]⟩ := by decide +kernel
theorem o_quest : Str.ofString "?" = ⟨#[63]⟩ := by decide +kernel
theorem o_bs : Str.ofString "\\" = ⟨#[92]⟩ := by decide +kernel
theorem o_dash : Str.ofString "-" = ⟨#[45]⟩ := by decide +kernel
theorem toksT_len : ∀ ts : List (Bool × Nat), ts.length ≤ (toksT ts).length
  | [] => Nat.zero_le _
  | t :: ts => by
    rw [toksT_cons, List.length_append, List.length_cons]
    have := toksT_len ts
    have : 0 < (tokT t).length := by unfold tokT; split <;> simp
    omega
theorem psT_len : ∀ ps : List TP, (∀ p ∈ ps, p.Ok) → ps.length ≤ (psT ps).length
  | [], _ => Nat.zero_le _
  | p :: ps, h => by
    rw [psT_cons, List.length_append, List.length_cons]
    have := psT_len ps fun q hq => h q (.tail _ hq)
    have := TP.text_pos (h p (.head _))
    omega
end
section
open PySem PySem.W PyProof.Rows
noncomputable def patT (rows : List Int) : List Nat := rows.flatMap fun n => 91 :: (uText n ++ [93])
noncomputable def escB (c : Nat) : Bool := c == 92 || c == 45 || c == 38 || c == 124 || c == 126
noncomputable def setP (u : List Nat) : TP :=
  match u with
  | [] => ⟨true, false, []⟩
  | c :: r => if c = 33 then ⟨true, true, r.map fun d => (escB d, d)⟩ else ⟨true, false, (escB c || c == 94 || c == 91, c) :: r.map fun d => (escB d, d)⟩
noncomputable def loneP (e : Bool) (c : Nat) : TP := ⟨false, false, [(e, c)]⟩
noncomputable def shutM (m : Int) : Bool := decide (m % 128 = 29 ∨ m % 128 = 93)
noncomputable def trP : List Int → List TP
  | [] => []
  | n :: rest =>
    if n % 256 = 33 then match rest with
      | [] => [loneP true 91, loneP false 33, loneP true 93]
      | m :: rest' => if shutM m then setP ([33, 93, 91] ++ (uText m).dropLast) :: loneP true 93 :: trP rest' else setP ([33, 93, 91] ++ uText m) :: trP rest'
    else if n % 128 = 29 then setP (uText n).dropLast :: loneP true 93 :: trP rest
    else setP (uText n) :: trP rest
noncomputable def pendP : List Nat → List TP
  | [93] => [loneP true 93]
  | [33, 93] => [loneP false 33, loneP true 93]
  | _ => []
noncomputable def Shape (pend : List Nat) (rows : List Int) : Prop := pend = [] ∨ pend = [93] ∨ (pend = [33, 93] ∧ rows = [])
/-- the signs that the scan for the bracket leaves out -/
noncomputable def k1 (u : List Nat) : Nat := if u.getD 0 0 = 33 then 1 else 0
noncomputable def sk (u : List Nat) : Nat := k1 u + (if u.getD (k1 u) 0 = 93 then 1 else 0)
noncomputable def esc1 (c : Nat) : List Nat := if c = 92 ∨ c = 45 then [92, c] else [c]
noncomputable def esc2 (c : Nat) : List Nat := if escB c then [92, c] else [c]
noncomputable def spB (c : Nat) : Bool := c == 38 || c == 124 || c == 126
noncomputable def lastS (s : List Nat) : List Nat := if s.getD 0 0 = 33 then 94 :: s.drop 1 else if s.getD 0 0 = 94 ∨ s.getD 0 0 = 91 then 92 :: s else s
noncomputable def rep92 (u : List Nat) : List Nat := u.flatMap fun c => if c = 92 then [92, 92] else [c]
noncomputable def okB (p : TP) : Bool := !p.toks.isEmpty && p.toks.all (fun t => t.1 || t.2 != 92) && (!p.inside || p.toks.tail.all fun t => t.1 || t.2 != 93) && (!p.inside || p.turned || p.toks.head?.all fun t => t.1 || t.2 != 94) && (p.inside || (!p.turned && p.toks.length == 1 && p.toks.head?.all fun t => t.1 || t.2 != 91))
theorem ok_of {p : TP} (h : okB p = true) : p.Ok := by
  obtain ⟨ins, tu, ts⟩ := p
  simp only [okB, Bool.and_eq_true, Bool.or_eq_true, Bool.not_eq_true', List.all_eq_true, bne_iff_ne, ne_eq, List.isEmpty_eq_false_iff, beq_iff_eq] at h
  obtain ⟨⟨⟨⟨h1, h2⟩, h3⟩, h4⟩, h5⟩ := h
  refine ⟨h1, fun t ht e => (h2 t ht).resolve_left (by simp [e]), fun i t ht e => ?_, fun i tt t ht e => ?_, fun i => ?_⟩
  · exact ((h3.resolve_left (by intro q; rw [q] at i; cases i)) t ht).resolve_left (by simp [e])
  · have h6 := (h4.resolve_left (by rintro (q | q); rw [q] at i; cases i; rw [q] at tt; cases tt))
    rw [Option.all_eq_true] at h6
    have := h6 t ht
    simp [e] at this
    exact this
  · have h6 := h5.resolve_left (by intro q; rw [q] at i; cases i)
    refine ⟨h6.1.1, h6.1.2, fun t ht e => ?_⟩
    have h7 := h6.2
    rw [Option.all_eq_true] at h7
    have := h7 t ht
    simp [e] at this
    exact this
noncomputable def gOk (u : List Nat) : Bool :=
  !u.isEmpty && u != [33] && decide (u.length ≤ 6) && (u.drop (sk u)).all (· != 93) && decide (sk u ≤ u.length) &&
  (u.contains 45 || Txt.replace (tx u) (Str.ofString "\\") (Str.ofString "\\\\") == tx (u.flatMap esc1)) &&
  (!(u.contains 45) || u == [45] || u == [33, 45] || u == [33, 93, 91, 45] || u == [33, 93, 91, 33, 45]) &&
  (!((u.flatMap esc1).any spB) || (!((u.flatMap esc1).dropLast.any spB) && spB ((u.flatMap esc1).getLastD 0) && u.flatMap esc2 == (u.flatMap esc1).dropLast ++ [92, (u.flatMap esc1).getLastD 0])) &&
  ((u.flatMap esc1).any spB || u.flatMap esc2 == u.flatMap esc1) &&
  (Txt.contains (tx u) (Str.ofString "-") == u.contains 45) && (setP u).text == 91 :: (lastS (u.flatMap esc2) ++ [93]) && (u.flatMap esc2) != [33] && okB (setP u)
/-- the texts by a number below 257 (256: the sign 127 itself) -/
noncomputable def uC (k : Nat) : List Nat :=
  let s := if k = 256 then [94, 63] else if k % 128 < 32 then [94, k % 128 + 64] else if k % 128 = 127 then [94, 159] else [k % 128]
  if k ≠ 256 ∧ k / 128 % 2 = 1 then 33 :: s else s
noncomputable def codeN (n : Int) : Nat := if n = 127 then 256 else (n % 256).toNat
theorem uText_code (n : Int) : uText n = uC (codeN n) := by
  unfold codeN uText uSigns uC
  by_cases h : n = 127
  · subst h; decide
  · simp only [if_neg h]
    have h1 : (n % 256).toNat < 256 := by omega
    have h2 : (n % 256).toNat ≠ 256 := by omega
    have h3 : (((n % 256).toNat % 128 : Nat) : Int) = n % 128 := by omega
    have h5 : (n % 128).toNat = (n % 256).toNat % 128 := by omega
    have h4 : ((n % 256).toNat / 128 % 2 = 1) ↔ (n / 128 % 2 = 1) := by omega
    simp only [if_neg h2, h2, ne_eq, not_false_eq_true, true_and, h4, h5, if_false]
    have e1 : ((n % 256).toNat % 128 < 32) ↔ (n % 128 < 32) := by omega
    have e2 : ((n % 256).toNat % 128 = 127) ↔ (n % 128 = 127) := by omega
    simp only [e1, e2]
noncomputable def ok1 (k : Nat) : Bool := k == 33 || gOk (if k ≠ 256 ∧ k % 128 = 29 then (uC k).dropLast else uC k)
noncomputable def ok2 (k : Nat) : Bool := gOk ([33, 93, 91] ++ (if k ≠ 256 ∧ (k % 128 = 29 ∨ k % 128 = 93) then (uC k).dropLast else uC k))
theorem all_ok1 : ∀ k : Fin 257, ok1 k.val = true := by decide +kernel
theorem all_ok2 : ∀ k : Fin 257, ok2 k.val = true := by decide +kernel

theorem codeN_lt (n : Int) : codeN n < 257 := by unfold codeN; split <;> omega
theorem c_33 {n : Int} (h : n % 256 = 33) : codeN n = 33 := by unfold codeN; split <;> omega
theorem c_29 {n : Int} : (codeN n ≠ 256 ∧ codeN n % 128 = 29) ↔ n % 128 = 29 := by unfold codeN; split <;> omega
theorem c_sh {n : Int} : (codeN n ≠ 256 ∧ (codeN n % 128 = 29 ∨ codeN n % 128 = 93)) ↔ (n % 128 = 29 ∨ n % 128 = 93) := by unfold codeN; split <;> omega
theorem u_33 {n : Int} (h : n % 256 = 33) : uText n = [33] := by rw [uText_code, c_33 h]; decide
theorem shut_end : ∀ k : Fin 257, (k.val ≠ 256 ∧ (k.val % 128 = 29 ∨ k.val % 128 = 93)) → uC k.val = (uC k.val).dropLast ++ [93] := by decide +kernel
theorem u_shut {n : Int} (h : n % 128 = 29 ∨ n % 128 = 93) : uText n = (uText n).dropLast ++ [93] := by
  rw [uText_code]
  exact shut_end ⟨codeN n, codeN_lt n⟩ (c_sh.mpr h)
theorem g_one {n : Int} (h : n % 256 ≠ 33) : gOk (if n % 128 = 29 then (uText n).dropLast else uText n) = true := by
  have := all_ok1 ⟨codeN n, codeN_lt n⟩
  unfold ok1 at this
  rw [Bool.or_eq_true] at this
  rcases this with h1 | h1
  · have h2 := eq_of_beq h1
    dsimp only at h2
    exfalso; unfold codeN at h2; split at h2 <;> omega
  · simp only [c_29] at h1
    rw [uText_code]; exact h1
theorem g_two (m : Int) : gOk ([33, 93, 91] ++ (if m % 128 = 29 ∨ m % 128 = 93 then (uText m).dropLast else uText m)) = true := by
  have h1 := all_ok2 ⟨codeN m, codeN_lt m⟩
  unfold ok2 at h1
  simp only [c_sh] at h1
  rw [uText_code]; exact h1
theorem patT_cons (n : Int) (rest : List Int) : patT (n :: rest) = 91 :: (uText n ++ 93 :: patT rest) := by simp [patT]
theorem grp_step (rows : List Int) (h : rows ≠ []) : (∃ n, rows = [n] ∧ n % 256 = 33 ∧ patT rows = [91, 33, 93] ∧ trP rows = loneP true 91 :: pendP [33, 93]) ∨
    ∃ u pend' rows', gOk u = true ∧ patT rows = 91 :: (u ++ 93 :: (pend' ++ patT rows')) ∧ Shape pend' rows' ∧ trP rows = setP u :: (pendP pend' ++ trP rows') := by
  obtain ⟨n, rest, rfl⟩ := List.exists_cons_of_ne_nil h
  by_cases hn : n % 256 = 33
  · cases rest with
    | nil => exact .inl ⟨n, rfl, hn, by rw [patT_cons, u_33 hn]; rfl, by rw [trP, if_pos hn]; rfl⟩
    | cons m rest' =>
      refine .inr ?_
      have g := g_two m
      by_cases hm : m % 128 = 29 ∨ m % 128 = 93
      · rw [if_pos hm] at g
        refine ⟨_, [93], rest', g, ?_, .inr (.inl rfl), ?_⟩
        · rw [patT_cons, patT_cons, u_33 hn]
          conv => lhs; rw [u_shut hm]
          simp
        · rw [trP, if_pos hn]
          simp only [shutM, hm, decide_true, if_true]; rfl
      · rw [if_neg hm] at g
        refine ⟨_, [], rest', g, ?_, .inl rfl, ?_⟩
        · rw [patT_cons, patT_cons, u_33 hn]
          simp
        · rw [trP, if_pos hn]
          simp only [shutM, hm, decide_false, Bool.false_eq_true, if_false]; rfl
  · refine .inr ?_
    have g := g_one hn
    by_cases hm : n % 128 = 29
    · rw [if_pos hm] at g
      refine ⟨_, [93], rest, g, ?_, .inr (.inl rfl), ?_⟩
      · rw [patT_cons]
        conv => lhs; rw [u_shut (.inl hm)]
        simp
      · rw [trP.eq_def]; simp only [if_neg hn, if_pos hm]; rfl
    · rw [if_neg hm] at g
      refine ⟨_, [], rest, g, ?_, .inl rfl, ?_⟩
      · rw [patT_cons]; simp
      · rw [trP.eq_def]; simp only [if_neg hn, if_neg hm]; rfl
/-- what the walk asks of a set's signs -/
structure IsGrp (u : List Nat) : Prop where
  ne : 0 < u.length
  len : u.length ≤ 6
  skl : sk u ≤ u.length
  k1l : k1 u < u.length
  off : ∀ j, sk u ≤ j → j < u.length → u.getD j 0 ≠ 93
  rep : u.contains 45 = false → Txt.replace (tx u) (Str.ofString "\\") (Str.ofString "\\\\") = tx (u.flatMap esc1)
  dash : u.contains 45 = true → u = [45] ∨ u = [33, 45] ∨ u = [33, 93, 91, 45] ∨ u = [33, 93, 91, 33, 45]
  sp1 : (u.flatMap esc1).any spB = true → (u.flatMap esc1).dropLast.any spB = false ∧ spB ((u.flatMap esc1).getLastD 0) = true ∧ u.flatMap esc2 = (u.flatMap esc1).dropLast ++ [92, (u.flatMap esc1).getLastD 0]
  sp0 : (u.flatMap esc1).any spB = false → u.flatMap esc2 = u.flatMap esc1
  con : Txt.contains (tx u) (Str.ofString "-") = u.contains 45
  txt : (setP u).text = 91 :: (lastS (u.flatMap esc2) ++ [93])
  one : u.flatMap esc2 ≠ [33]
  ok : (setP u).Ok
theorem grp_of {u : List Nat} (h : gOk u = true) : IsGrp u := by
  simp only [gOk, Bool.and_eq_true, Bool.or_eq_true, Bool.not_eq_true', List.isEmpty_eq_false_iff, bne_iff_ne, ne_eq, decide_eq_true_eq, beq_iff_eq] at h
  obtain ⟨⟨⟨⟨⟨⟨⟨⟨⟨⟨⟨⟨h1, h2⟩, h3⟩, h4⟩, h5⟩, h6⟩, h7⟩, h8⟩, h9⟩, h0⟩, h10⟩, h11⟩, h12⟩ := h
  have hne : 0 < u.length := List.length_pos_iff.mpr h1
  refine ⟨hne, h3, h5, ?_, fun j e1 e2 => ?_, fun e => ?_, fun e => ?_, fun e => ?_, fun e => ?_, by rw [h0], h10, h11, ok_of h12⟩
  · unfold k1
    split
    · rename_i hc
      match u, hne, h2, hc with
      | [c], _, h2, hc => exact absurd (by simpa using hc) (by intro e; exact h2 (by rw [e]))
      | _ :: _ :: _, _, _, _ => simp
    · exact hne
  · rw [List.all_eq_true] at h4
    have hm : u.getD j 0 ∈ u.drop (sk u) := by
      rw [List.getD_eq_getElem?_getD, List.getElem?_eq_getElem e2, Option.getD_some]
      exact List.mem_drop_iff_getElem.mpr ⟨j - sk u, by omega, by congr 1; omega⟩
    have := h4 _ hm
    simpa using this
  · exact eq_of_beq (by simpa using h6.resolve_left (by rw [e]; simp))
  · rcases h7 with (((h7 | h7) | h7) | h7) | h7
    · rw [e] at h7; cases h7
    · exact .inl h7
    · exact .inr (.inl h7)
    · exact .inr (.inr (.inl h7))
    · exact .inr (.inr (.inr h7))
  · rcases h8 with h8 | h8
    · rw [e] at h8; cases h8
    · exact ⟨h8.1.1, h8.1.2, h8.2⟩
  · rcases h9 with h9 | h9
    · rw [e] at h9; cases h9
    · exact h9
end
section
open PySem PySem.W PyProof.Rows
theorem setP_bang (r : List Nat) : (setP (33 :: r)).pc = (true, r) := by
  simp [setP, TP.pc, List.map_map, Function.comp_def]
theorem setP_no {c : Nat} {r : List Nat} (h : c ≠ 33) : (setP (c :: r)).pc = (false, c :: r) := by
  simp [setP, TP.pc, h, List.map_map, Function.comp_def]
theorem uSigns_ne (n : Int) : uSigns n ≠ [] := by
  unfold uSigns
  split
  · simp
  · split
    · simp
    · split <;> simp
theorem uSigns_29 {n : Int} (h : n % 128 = 29) : uSigns n = [94, 93] := by
  rw [uSigns, if_neg (by omega), if_pos (by omega), h]; rfl
theorem uText_pc {n : Int} (h : n % 256 ≠ 33) : (setP (uText n)).pc = (decide (n / 128 % 2 = 1), uSigns n) := by
  unfold uText
  split
  · rename_i h1; rw [setP_bang]; simp [h1]
  · rename_i h1
    have hn : ∀ r, uSigns n = 33 :: r → False := by
      intro r e
      unfold uSigns at e
      split at e
      · simp at e
      · split at e
        · simp at e
        · split at e
          · simp at e
          · injection e with e _; omega
    cases e : uSigns n with
    | nil => exact absurd e (uSigns_ne n)
    | cons c r =>
      rw [setP_no fun q => hn r (by rw [e, q])]
      simp [h1]
theorem uText_pc29 {n : Int} (h : n % 128 = 29) : (setP (uText n).dropLast).pc = (decide (n / 128 % 2 = 1), (uSigns n).dropLast) := by
  unfold uText
  rw [uSigns_29 h]
  split
  · rename_i h1; simp [setP, TP.pc, h1]
  · rename_i h1; simp [setP, TP.pc, h1]
theorem trP_pc : ∀ row : List Int, (trP row).map TP.pc = dueFrom row
  | [] => rfl
  | [n] => by
    rw [trP.eq_def, dueFrom.eq_def]
    dsimp only
    split
    · rfl
    · split
      · rw [List.map_cons, List.map_cons, uText_pc29 (by assumption)]; rfl
      · rw [List.map_cons, uText_pc (by assumption)]; rfl
  | n :: m :: rest => by
    rw [trP.eq_def, dueFrom.eq_def]
    dsimp only
    split
    · have ih := trP_pc rest
      by_cases hm : m % 128 = 29 ∨ m % 128 = 93
      · rw [if_pos (by simp [shutM, hm]), if_pos hm, List.map_cons, List.map_cons, ih]
        have e : [33, 93, 91] ++ (uText m).dropLast = 33 :: ([93, 91] ++ (uText m).dropLast) := rfl
        rw [e, setP_bang]
        congr 2
        unfold uText
        have hne := uSigns_ne m
        split
        · rw [List.dropLast_cons_of_ne_nil hne, List.append_assoc, List.dropLast_append_of_ne_nil (by simp), List.dropLast_append_of_ne_nil hne]; rfl
        · rw [List.append_nil, List.dropLast_append_of_ne_nil hne]
      · rw [if_neg (by simp [shutM, hm]), if_neg hm, List.map_cons, ih]
        have e : [33, 93, 91] ++ uText m = 33 :: ([93, 91] ++ uText m) := rfl
        rw [e, setP_bang]
        congr 2
        unfold uText
        split
        · rw [List.append_assoc]; rfl
        · rw [List.append_nil]
    · have ih := trP_pc (m :: rest)
      split
      · rw [List.map_cons, List.map_cons, uText_pc29 (by assumption), ih]; rfl
      · rw [List.map_cons, uText_pc (by assumption), ih]
theorem lone_91 : (loneP true 91).Ok := ok_of (by decide)
theorem lone_33 : (loneP false 33).Ok := ok_of (by decide)
theorem lone_93 : (loneP true 93).Ok := ok_of (by decide)
theorem setP_len {u : List Nat} (h : gOk u = true) : (setP u).text.length ≤ 15 := by
  have G := grp_of h
  rw [G.txt]
  have h1 : ∀ u : List Nat, (u.flatMap esc2).length ≤ 2 * u.length := by
    intro u
    induction u with
    | nil => exact Nat.le_refl _
    | cons c r ih =>
      rw [List.flatMap_cons, List.length_append, List.length_cons]
      have : (esc2 c).length ≤ 2 := by unfold esc2; split <;> simp
      omega
  have h2 : (lastS (u.flatMap esc2)).length ≤ (u.flatMap esc2).length + 1 := by
    unfold lastS
    split
    · simp
    · split <;> simp
  have := h1 u
  have := G.len
  simp only [List.length_cons, List.length_append, List.length_nil]
  omega
/-- each piece is in order, and none of them is long -/
theorem trP_all : ∀ row : List Int, (∀ p ∈ trP row, p.Ok) ∧ (psT (trP row)).length ≤ 20 * row.length
  | [] => ⟨fun p hp => (List.not_mem_nil hp).elim, Nat.le_refl _⟩
  | [n] => by
    rw [trP.eq_def]
    dsimp only
    split
    · refine ⟨fun p hp => ?_, (by decide : 5 ≤ 20)⟩
      simp only [List.mem_cons, List.not_mem_nil, or_false] at hp
      rcases hp with rfl | rfl | rfl
      · exact lone_91
      · exact lone_33
      · exact lone_93
    · rename_i h
      have g := g_one h
      split
      · rename_i h2
        rw [if_pos h2] at g
        refine ⟨fun p hp => ?_, ?_⟩
        · simp only [trP, List.mem_cons, List.not_mem_nil, or_false] at hp
          rcases hp with rfl | rfl
          · exact (grp_of g).ok
          · exact lone_93
        · have := setP_len g
          have e : (loneP true 93).text.length = 2 := rfl
          simp only [trP, psT, List.flatMap_cons, List.flatMap_nil, List.length_append, List.length_cons, List.length_nil, e]
          omega
      · rename_i h2
        rw [if_neg h2] at g
        refine ⟨fun p hp => ?_, ?_⟩
        · simp only [trP, List.mem_cons, List.not_mem_nil, or_false] at hp
          subst hp
          exact (grp_of g).ok
        · have := setP_len g
          simp only [trP, psT, List.flatMap_cons, List.flatMap_nil, List.length_append, List.length_cons, List.length_nil]
          omega
  | n :: m :: rest => by
    rw [trP.eq_def]
    dsimp only
    have e93 : (loneP true 93).text.length = 2 := rfl
    split
    · have ih := trP_all rest
      have g := g_two m
      by_cases hm : m % 128 = 29 ∨ m % 128 = 93
      · rw [if_pos (by simp [shutM, hm])]
        rw [if_pos hm] at g
        refine ⟨fun p hp => ?_, ?_⟩
        · rcases List.mem_cons.mp hp with rfl | hp
          · exact (grp_of g).ok
          · rcases List.mem_cons.mp hp with rfl | hp
            · exact lone_93
            · exact ih.1 p hp
        · have := setP_len g
          rw [psT_cons, psT_cons]
          simp only [List.length_append, List.length_cons, e93]
          have := ih.2
          omega
      · rw [if_neg (by simp [shutM, hm])]
        rw [if_neg hm] at g
        refine ⟨fun p hp => ?_, ?_⟩
        · rcases List.mem_cons.mp hp with rfl | hp
          · exact (grp_of g).ok
          · exact ih.1 p hp
        · have := setP_len g
          rw [psT_cons]
          simp only [List.length_append, List.length_cons]
          have := ih.2
          omega
    · rename_i h
      have ih := trP_all (m :: rest)
      have g := g_one h
      split
      · rename_i h2
        rw [if_pos h2] at g
        refine ⟨fun p hp => ?_, ?_⟩
        · rcases List.mem_cons.mp hp with rfl | hp
          · exact (grp_of g).ok
          · rcases List.mem_cons.mp hp with rfl | hp
            · exact lone_93
            · exact ih.1 p hp
        · have := setP_len g
          rw [psT_cons, psT_cons]
          have h3 := ih.2
          simp only [List.length_append, List.length_cons, e93] at h3 ⊢
          omega
      · rename_i h2
        rw [if_neg h2] at g
        refine ⟨fun p hp => ?_, ?_⟩
        · rcases List.mem_cons.mp hp with rfl | hp
          · exact (grp_of g).ok
          · exact ih.1 p hp
        · have := setP_len g
          rw [psT_cons]
          have h3 := ih.2
          simp only [List.length_append, List.length_cons] at h3 ⊢
          omega
theorem empty_is : Str.ofString "" = (⟨#[]⟩ : Str) := by decide +kernel
theorem join_tx : ∀ ls : List (List Nat), Str.join (⟨#[]⟩ : Str) (ls.map tx) = tx ls.flatten
  | [] => rfl
  | l :: ls => by
    rw [List.map_cons, join_nil_cons, join_tx ls, tx_app, List.flatten_cons]
theorem join_txE (ls : List (List Nat)) : Txt.join (Str.ofString "") (ls.map tx) = tx ls.flatten := by
  rw [eq_of_beq (join_plain_closes _ _), empty_is, join_tx]
theorem join_pieces (ps : List TP) : Txt.join (Str.ofString "") (ps.map fun p => tx p.text) = ⟨(psT ps).toArray⟩ := by
  have := join_txE (ps.map TP.text)
  rw [List.map_map] at this
  exact this.trans (by rw [psT, List.flatMap_def])
theorem pieces_len : ∀ ps : List TP, ((ps.map fun p => tx p.text).map (·.length)).sum = (psT ps).length
  | [] => rfl
  | p :: ps => by
    rw [List.map_cons, List.map_cons, List.sum_cons, pieces_len ps, psT_cons, List.length_append]
    rfl
theorem uSigns_len (n : Int) : (uSigns n).length ≤ 2 := by
  unfold uSigns; split
  · simp
  · split
    · simp
    · split <;> simp
theorem uText_len (n : Int) : (uText n).length ≤ 3 := by
  have := uSigns_len n
  unfold uText
  split
  · rw [List.length_cons]; omega
  · omega
theorem patT_len : ∀ row : List Int, (patT row).length ≤ 5 * row.length
  | [] => Nat.le_refl _
  | n :: rest => by
    rw [patT_cons]
    have := patT_len rest
    have := uText_len n
    simp only [List.length_cons, List.length_append]
    omega
theorem join_patT (row : List Int) : Txt.join (Str.ofString "") (row.map fun n => tx (91 :: (uText n ++ [93]))) = ⟨(patT row).toArray⟩ := by
  have := join_txE (row.map fun n => 91 :: (uText n ++ [93]))
  rw [List.map_map] at this
  exact this.trans (by rw [patT, List.flatMap_def])
end
section
open PySem PySem.W PyProof.Rows PySem.Spec PySem.Calls
theorem f_lookup : typeLookup (.type "list") "append" = pure (some (.builtin "list.append")) := by rw [typeLookup_type, builtinLookup_eq_fast]; kernel_rfl
theorem f_typeOf : typeOf (.builtin "list.append") = pure (.type "method_descriptor") := by kernel_rfl
theorem f_get : typeLookup (.type "method_descriptor") "__get__" = pure (some (.builtin "method_descriptor.__get__")) := by rw [typeLookup_type, builtinLookup_eq_fast]; kernel_rfl
theorem f_set : typeLookup (.type "method_descriptor") "__set__" = pure none := by rw [typeLookup_type, builtinLookup_eq_fast]; kernel_rfl
theorem f_del : typeLookup (.type "method_descriptor") "__delete__" = pure none := by rw [typeLookup_type, builtinLookup_eq_fast]; kernel_rfl
theorem slot_md : Slot "method_descriptor" "__get__" "method_descriptor.__get__" :=
  .of (owner := "method_descriptor") (n := "__get__") (by rw [typeLookup_type, builtinLookup_eq_fast]; kernel_rfl) (by decide +kernel) (by decide +kernel) (by decide +kernel)
    (by first | exact .inl (by decide +kernel) | exact .inr (by decide +kernel)) (by rw [isSubtype_type]; kernel_rfl)
theorem entry_md : entryFor table "method_descriptor.__get__" = some Builtin.«method_descriptor.__get__» := entryFor_of_tree (by kernel_rfl)
theorem args_md (a b c : Value) : argsOk "method_descriptor.__get__" ⟨[a, b, c], []⟩ := by unfold argsOk; kernel_rfl
noncomputable def boundApp (a : Addr) : Obj := { cls := .type "builtin_function_or_method", data := .fields #[.builtin "list.append", .ref a] }
theorem told_app : Manifest.toldItsClass.contains "list.append" = false := by decide +kernel
theorem run_md {M : Model} {A : Around} {E : Value → Shared → Prop} {P : Fin → Shared → Prop} {a : Addr} {xs : Array Value} {k : Nat} {sl : Array (Option Value)} {s : Shared}
    (hx : s.heap.get? a = some { cls := .type "list", dict := none, data := .seq xs k, slots := sl })
    (h : P (.done (.ret (.ref s.heap.objs.size))) { s with heap := s.heap.push (boundApp a) }) :
    wpAny M A (Builtin.«method_descriptor.__get__» ⟨[.builtin "list.append", .ref a, .type "list"], []⟩) P E s := by
  have hT : s.TypeIs (.ref a) "list" := ⟨_, hx, rfl⟩
  unfold Builtin.«method_descriptor.__get__»
  refine wpAny_bind (wpAny_of_eq (a := (.builtin "list.append", some (.ref a), some (.type "list"))) (by first | rfl | kernel_rfl) ?_)
  dsimp only
  simp only [told_app, Bool.false_eq_true, if_false]
  have f8 : isSubtype (.type "list") (.type (".".intercalate ("list.append".cutAt '.').dropLast)) = pure true := by
    rw [show ".".intercalate ("list.append".cutAt '.').dropLast = "list" by decide +kernel, isSubtype_type]; kernel_rfl
  repeat (any_goals (first | assumption | wp_step))
  all_goals (try exact wpAny_bind (wpAny_newObj_type (wpAny_pure h)))

section
variable {prog : Program} {w : World} {M : Model} {A : Around} {E : Value → Shared → Prop} {s : Shared} {h₀ : Heap} {L : Addr} {m : Str → Option Value} {news : List (Addr × Obj)}
theorem ga_append {R : Fin → Shared → Prop} {a : Addr} {xs : Array Value} {k : Nat} {sl : Array (Option Value)} {u : Tok} {hp : Heap} {g : Array GenState} {d : Drawn} {tk : Nat} {os : OsState}
    (hx : hp.get? a = some { cls := .type "list", dict := none, data := .seq xs k, slots := sl }) (h : R (.done (.ret (.ref hp.objs.size))) ⟨hp.push (boundApp a), g, d, tk, os⟩) :
    wpAny (model prog w) A (Builtin.«object.__getattribute__» ⟨[.ref a, .str "append" u], []⟩) R E ⟨hp, g, d, tk, os⟩ := by
  have hT : (⟨hp, g, d, tk, os⟩ : Shared).TypeIs (.ref a) "list" := ⟨_, hx, rfl⟩
  have hT5 : (⟨hp, g, d, tk, os⟩ : Shared).TypeIs (.builtin "list.append") "method_descriptor" := f_typeOf
  have f4 := f_lookup
  have f5 := f_typeOf
  have f6 := f_get
  have f7 := f_set
  have f8 := f_del
  unfold Builtin.«object.__getattribute__»
  repeat (any_goals (first | assumption | wp_step))
  refine codeAny_call_builtin slot_md.plain entry_md (slot_md.check _ _ _ _ _ _ _ _ hT5 (args_md _ _ _) ?_)
  refine run_md hx ?_
  exact wpAny_pure h
theorem attr_append {a : Addr} {xs : Array Value} {k : Nat} {sl : Array (Option Value)} {expr : Bool} {Q : Value → Shared → Prop} 
    (hx : s.heap.get? a = some { cls := .type "list", dict := none, data := .seq xs k, slots := sl }) (h : Q (.ref s.heap.objs.size) { s with heap := s.heap.push (boundApp a), toks := s.toks + 1 }) :
    wpAny (model prog w) A (getAttr (.ref a) "append" expr) Q E s := by
  obtain ⟨hp, g, d, tk, os⟩ := s
  have hT : ∀ tk', (⟨hp, g, d, tk', os⟩ : Shared).TypeIs (.ref a) "list" := fun _ => ⟨_, hx, rfl⟩
  have f3 := F.slot_list_getattribute.lookup
  have f4 := F.slot_list_getattribute.bind (.ref a)
  have f5 := am_list_getattr_none
  have hx0 : (expr && onTheHeap (Value.builtin "list.__getattribute__")) = false := by cases expr <;> rfl
  unfold getAttr getAttrBy
  repeat (any_goals (first | assumption | exact hT _ | wp_step))
  refine codeAny_call_builtin F.slot_list_getattribute.plain am_entry_list_getattribute (F.slot_list_getattribute.check _ _ _ _ _ _ _ _ (hT _) (F.args_list_getattribute_2 _ _) (ga_append hx ?_))
  exact handed_on rfl h
noncomputable def AppAt (x a : Addr) (h : Heap) : Prop := h.get? x = some (boundApp a)
theorem appAt_of {x a : Addr} {h : Heap} (N : News h₀ L h news) (hm : (x, boundApp a) ∈ news) : AppAt x a h := N.get hm
theorem attrK_append {a : Addr} {xs : Array Value} {k : Nat} {expr : Bool} {Q : Value → Shared → Prop} (F : Fr h₀ L s.heap m) (N : News h₀ L s.heap news) (hm : (a, listOf xs k) ∈ news)
    (h : ∀ x h', Fr h₀ L h' m → News h₀ L h' ((x, boundApp a) :: news) → (∀ p ∈ news, p.1 < x) → Q (.ref x) { s with heap := h', toks := s.toks + 1 }) :
    wpAny (model prog w) A (getAttr (.ref a) "append" expr) Q E s :=
  attr_append (N.get hm) (h _ _ (F.push _) (News.push F N _) fun p hp => Heap.lt_size (N p hp).1)
theorem callWith_app {pos : Pos} {u a : Addr} {first : List Value} {env : Env} {e : Expr} {Q : Value → Shared → Prop} (_N : News h₀ L s.heap news) (_hm : (u, boundApp a) ∈ news)
    (h : wpAny M A (spliced (backTo pos (starEach [e] env))) (fun vs s₁ => AppAt u a s₁.heap ∧ wpAny M A (call (.ref u) (first ++ vs)) Q E s₁) E s)
    (he : starEach [e] env = (false, eval e env) :: starEach [] env := by rfl) :
    wpAny M A (callWith pos (.ref u) first (backTo pos (starEach [e] env)) []) Q E s := by
  rw [he] at h ⊢
  refine callWith_of (P := AppAt u a) (by rfl) (fun hh X => ⟨.machine, .inr (.inl rfl), (Looks.ld (part := none) X).andThen .now⟩) (evalArgs_plain h)
theorem sig_is : (Manifest.signature? "list.append").isSome = true := by decide +kernel
noncomputable def sigApp : Manifest.Signature := (Manifest.signature? "list.append").get sig_is
theorem sig_app : Manifest.signature? "list.append" = some sigApp := (Option.some_get sig_is).symm
theorem kind_app : builtinKind "list.append" = some .method := by decide +kernel
theorem vars_app : Manifest.varargsMethods.contains "list.append" = false := by decide +kernel
theorem args_app {a : Addr} {x : Str} {t : Tok} : Bind.checkArgs "list.append" { sigApp with full := s!"{Bind.lastOf "list"}.{Bind.lastOf "list.append"}" } ⟨[.ref a, .str x t], []⟩ = pure () := by first | kernel_rfl | rfl
theorem check_app {a : Addr} {x : Str} {t : Tok} {Q : Unit → Shared → Prop} {its : Array Value} {n : Nat} (hx : s.heap.get? a = some (listOf its n)) (h : Q () s) : wpAny M A (checkBoundCall "list.append" ⟨[.ref a, .str x t], []⟩) Q E s := by
  have hT : s.TypeIs (.ref a) "list" := ⟨_, hx, rfl⟩
  unfold checkBoundCall
  simp only [sig_app, kind_app, vars_app]
  have f1 : isSubtype (.type "list") (.type "module") = pure false := by rw [isSubtype_type]; kernel_rfl
  have f2 : isSubtype (.type "list") (.type "type") = pure false := by rw [isSubtype_type]; kernel_rfl
  repeat (any_goals (first | assumption | ((with_reducible show wpAny _ _ (Bind.checkArgs _ _ _) _ _ _); exact wpAny_of_eq (a := ()) args_app h) | wp_step))
theorem quiet_app {as : Args} : (Code.builtin "list.append" as).quiet = true := Code.quiet_builtin _ (by decide +kernel)
theorem call_app {u D : Addr} {its : Array Value} {n : Nat} {x : Str} {t : Tok} {news' : List (Addr × Obj)} {Q : Value → Shared → Prop} (F : Fr h₀ L s.heap m) (N : News h₀ L s.heap news) (hm : (u, boundApp D) ∈ news) (U : Upd D (listOf its n) (listOf (its.push (.str x t)) (n + 1)) news news')
    (h : ∀ h', Fr h₀ L h' m → News h₀ L h' news' → Q .none { s with heap := h' }) (hsz : its.size ≤ sizeLine) : wpAny (model prog w) A (call (.ref u) [.str x t]) Q E s := by
  obtain ⟨pre, post, rfl, rfl, a, b⟩ := U.split
  have z := N (D, listOf its n) (List.mem_append.mpr (.inr (.head _)))
  refine wpAny_call (codeAny_of_tree ?_)
  show wpAny _ A.in1 (callAny (.ref u) ⟨[.str x t], []⟩) _ _ s
  simp only [callAny]
  refine wpAny_bind (wpAny_load (N.get hm) ?_)
  simp only [boundApp, show (Value.type "builtin_function_or_method" == Value.type "method" || Value.type "builtin_function_or_method" == Value.type "builtin_function_or_method" || Value.type "builtin_function_or_method" == Value.type "method-wrapper") = true by decide, if_true]
  refine KFB.if_so (by decide) ?_
  refine wpAny_bind (check_app z.1 ?_)
  refine wpAny_bind (wpAny_pure (wpAny_pure ?_))
  refine ⟨quiet_app, codeAny_builtin entry_list_append ?_⟩
  show wpAny _ _ (updateSeq D (·.push (.str x t)) >>= fun _ => ret .none) _ _ s
  refine wpAny_bind ?_
  refine wpAny_updateSeq z.1 rfl (wpAny_pure ?_)
  have hs : Heap.SameBut D s.heap (s.heap.update D (Obj.mapSeq (·.push (.str x t)))) := Heap.SameBut.update ..
  exact h _ (F.change hs z.2.1 z.2.2) (news_set N a b hs (by rw [Heap.get?_update_self _ z.1 (by rw [mapSeq_push]; rfl), mapSeq_push]))
end
end
section
open PySem PySem.W PyProof.Rows PySem.Spec PySem.Calls
noncomputable def escEs (P : Params) : Array DictEntry := match (laid.heap_1 P).lookup 45 with
  | some ⟨_, _, .dict es _, _⟩ => es
  | _ => #[]
noncomputable def escOk (e : DictEntry) : Bool := match e.key with
  | .int i _ => e.hash == hashInt i
  | _ => false
theorem esc_lookup (P : Params) : ∃ n, (laid.heap_1 P).lookup 45 = some ⟨.type "dict", none, .dict (escEs P) n, #[]⟩ := ⟨_, rfl⟩
theorem esc_keys (P : Params) : (escEs P).all escOk = true := by kernel_rfl
theorem esc_93 (P : Params) : ∃ t, findBy Value.isInt (escEs P) 93 = some (.str ⟨#[92, 93]⟩ t) := ⟨_, rfl⟩
theorem esc_33 (P : Params) : findBy Value.isInt (escEs P) 33 = none := rfl
theorem esc_map {prog : Program} {w : World} {h : Heap} (X : (laid.heap_1 w.params).In h) : h.MapOf (intKind prog w) 45 (fun k => findBy Value.isInt (escEs w.params) k) := by
  obtain ⟨n, hl⟩ := esc_lookup w.params
  refine ⟨_, escEs w.params, n, X _ _ hl, ⟨rfl, rfl, rfl⟩, rfl, fun e he => ?_, fun _ => rfl⟩
  have := Array.all_eq_true_iff_forall_mem.mp (esc_keys w.params) e he
  unfold escOk at this
  split at this
  · rename_i i t hk
    exact ⟨i, by rw [hk]; exact intKind_is prog w i t, eq_of_beq this⟩
  · cases this
theorem slot_tr : Slot "str" "translate" "str.translate" :=
  .of (owner := "str") (n := "translate") (by rw [typeLookup_type, builtinLookup_eq_fast]; kernel_rfl) (by decide +kernel) (by decide +kernel) (by decide +kernel)
    (by first | exact .inl (by decide +kernel) | exact .inr (by decide +kernel)) (by rw [isSubtype_type]; kernel_rfl)
theorem type_tr : typeOf (.builtin "str.translate") = pure (.type "method_descriptor") := by show builtinType _ = _; rw [builtinType_eq_fast]; kernel_rfl
theorem entry_tr : entryFor table "str.translate" = some Builtin.«str.translate» := entryFor_of_tree (by kernel_rfl)
theorem args_tr (a b : Value) : argsOk "str.translate" ⟨[a, b], []⟩ := by unfold argsOk; kernel_rfl
section
variable {prog : Program} {w : World} {M : Model} {A : Around} {E : Value → Shared → Prop} {s : Shared} {h₀ : Heap} {L : Addr} {m : Str → Option Value} {news : List (Addr × Obj)}
theorem gm_tr {x : Str} {t : Tok} {pl : Sem Bool} {Q : Value × List Value → Shared → Prop} (h : Q (.builtin "str.translate", [.str x t]) s) : wpAny M A (getMethod (.str x t) "translate" pl) Q E s := by
  with_reducible exact GM.of (.str x t) (typeIs_str _ _ _) slot_tr type_tr GM.noRef h
theorem tab_93 {s : Shared} {Q : Builtin.Str.Mapped → Shared → Prop} (X : (laid.heap_1 w.params).In s.heap) (h : ∀ tk, Q (.text ⟨#[92, 93]⟩) { s with toks := tk }) : wpAny (model prog w) A (Builtin.Str.tableLookup (.ref 45) 93) Q E s := by
  obtain ⟨t, ht⟩ := esc_93 w.params
  unfold Builtin.Str.tableLookup
  refine wpAny_bind (wpAny_attempt (wpAny_bind (wpAny_mkInt (wpAny_getItem_of (intKind_is prog w 93 _) (esc_map X) ht ?_))))
  dsimp only
  repeat (any_goals (first | assumption | wp_step))
  exact h _
theorem tab_33 {s : Shared} {Q : Builtin.Str.Mapped → Shared → Prop} (X : (laid.heap_1 w.params).In s.heap) (hA : A.handled = none) (h : ∀ h' tk, (∀ b o, s.heap.get? b = some o → h'.get? b = some o) → Q .keep { s with heap := h', toks := tk }) : wpAny (model prog w) A (Builtin.Str.tableLookup (.ref 45) 33) Q E s := by
  unfold Builtin.Str.tableLookup
  have f1 : isSubtype (.type "KeyError") (.type "LookupError") = pure true := by rw [isSubtype_type]; kernel_rfl
  refine wpAny_bind (wpAny_attempt (wpAny_bind (wpAny_mkInt (wpAny_getItem_missing_of (intKind_is prog w 33 _) (by rfl) hA (esc_map X) (esc_33 w.params) fun h' e hn => ?_))))
  dsimp only
  obtain ⟨ob, t, h1, h2, h3⟩ := hn.there
  have hT : ({ s with heap := h', toks := s.toks + 1 + 1 } : Shared).TypeIs (.ref e) "KeyError" := ⟨_, h1, h2⟩
  repeat (any_goals (first | assumption | wp_step))
  exact h _ _ fun b o e => hn.keeps b o e
theorem tree_93 {t : Tok} {P : PySem.Fin → Shared → Prop} (X : (laid.heap_1 w.params).In s.heap) (h : ∀ tk t', P (.done (.ret (.str ⟨#[92, 93]⟩ t'))) { s with toks := tk }) :
    wpAny (model prog w) A (Builtin.«str.translate» ⟨[.str ⟨#[93]⟩ t, .ref 45], []⟩) P E s := by
  unfold Builtin.«str.translate»
  repeat (any_goals (first | assumption | ((with_reducible show wpAny _ _ (Builtin.Str.tableLookup _ _) _ _ _); (show wpAny _ _ (Builtin.Str.tableLookup (.ref 45) 93) _ _ _); refine tab_93 X fun _ => ?_) | wp_step))
  exact h _ _
theorem tree_33 {t : Tok} {P : PySem.Fin → Shared → Prop} (X : (laid.heap_1 w.params).In s.heap) (hA : A.handled = none) (h : ∀ h' tk t', (∀ b o, s.heap.get? b = some o → h'.get? b = some o) → P (.done (.ret (.str ⟨#[33]⟩ t'))) { s with heap := h', toks := tk }) :
    wpAny (model prog w) A (Builtin.«str.translate» ⟨[.str ⟨#[33]⟩ t, .ref 45], []⟩) P E s := by
  unfold Builtin.«str.translate»
  repeat (any_goals (first | assumption | ((with_reducible show wpAny _ _ (Builtin.Str.tableLookup _ _) _ _ _); (show wpAny _ _ (Builtin.Str.tableLookup (.ref 45) 33) _ _ _); refine tab_33 X hA fun _ _ _ => ?_) | wp_step))
  exact h _ _ _ (by assumption)
theorem call_93 {t : Tok} {Q : Value → Shared → Prop} (X : (laid.heap_1 w.params).In s.heap) (h : ∀ tk t', Q (.str ⟨#[92, 93]⟩ t') { s with toks := tk }) : wpAny (model prog w) A (call (.builtin "str.translate") [.str ⟨#[93]⟩ t, .ref 45]) Q E s :=
  wpAny_call_entry slot_tr (typeIs_str _ _ _) entry_tr (tree_93 X fun tk t' => ⟨_, rfl, h tk t'⟩) (args_tr _ _)
theorem call_33 {t : Tok} {Q : Value → Shared → Prop} (X : (laid.heap_1 w.params).In s.heap) (hA : A.handled = none) (h : ∀ h' tk t', (∀ b o, s.heap.get? b = some o → h'.get? b = some o) → Q (.str ⟨#[33]⟩ t') { s with heap := h', toks := tk }) : wpAny (model prog w) A (call (.builtin "str.translate") [.str ⟨#[33]⟩ t, .ref 45]) Q E s :=
  wpAny_call_entry slot_tr (typeIs_str _ _ _) entry_tr (tree_33 X hA fun h' tk t' hk => ⟨_, rfl, h h' tk t' hk⟩) (args_tr _ _)
end
end
section
open PySem PySem.W PyProof.Rows PySem.Spec PySem.Calls
open PySem.Sre
noncomputable def reCode : Array Nat := #[14, 14, 4, 1, 1, 9, 0, 64, 0, 1342177280, 0, 0, 0, 0, 0, 17, 0, 13, 11, 9, 0, 64, 0, 1342177280, 0, 0, 0, 0, 0, 17, 1, 1]
noncomputable def special (c : Nat) : Bool := c == 38 || c == 124 || c == 126
theorem bits_is : ∀ c : Fin 256, (reCode.getD (6 + c.val / 32) 0).testBit (c.val % 32) = special c.val := by decide +kernel
theorem bits_is2 : ∀ c : Fin 256, (reCode.getD (20 + c.val / 32) 0).testBit (c.val % 32) = special c.val := by decide +kernel
theorem special_lt {c : Nat} (h : special c = true) : c < 256 := by unfold special at h; simp at h; omega
theorem inSet_no {c : Nat} (h : special c = false) (seen : Sre.Seen) : ∃ seen', inSet reCode c reCode.size 5 true seen = .ok (false, seen') := by
  have hb : (decide (c < 256) && (reCode.getD (5 + (1 + c / 32)) 0).testBit (c % 32)) = false := by
    by_cases hc : c < 256
    · have := bits_is ⟨c, hc⟩
      simp only [show 5 + (1 + c / 32) = 6 + c / 32 by omega]
      rw [this, h, Bool.and_false]
    · rw [decide_eq_false hc, Bool.false_and]
  show ∃ seen', inSet reCode c (31 + 1) 5 true seen = _
  unfold inSet
  show ∃ seen', (if (decide (c < 256) && (reCode.getD (5 + (1 + c / 32)) 0).testBit (c % 32)) = true then _ else inSet reCode c 31 (5 + 9) true _) = _
  rw [hb]
  exact ⟨_, rfl⟩
theorem inSet_yes {c : Nat} (h : special c = true) (seen : Sre.Seen) : ∃ seen', inSet reCode c reCode.size 5 true seen = .ok (true, seen') := by
  have hc := special_lt h
  have hb : (decide (c < 256) && (reCode.getD (5 + (1 + c / 32)) 0).testBit (c % 32)) = true := by
    have := bits_is ⟨c, hc⟩
    simp only [show 5 + (1 + c / 32) = 6 + c / 32 by omega]
    rw [this, h, decide_eq_true hc]; rfl
  show ∃ seen', inSet reCode c (31 + 1) 5 true seen = _
  unfold inSet
  show ∃ seen', (if (decide (c < 256) && (reCode.getD (5 + (1 + c / 32)) 0).testBit (c % 32)) = true then _ else _) = _
  rw [hb]
  exact ⟨_, rfl⟩
theorem inSet_yes2 {c : Nat} (h : special c = true) (seen : Sre.Seen) : ∃ seen', inSet reCode c reCode.size 19 true seen = .ok (true, seen') := by
  have hc := special_lt h
  have hb : (decide (c < 256) && (reCode.getD (19 + (1 + c / 32)) 0).testBit (c % 32)) = true := by
    have := bits_is2 ⟨c, hc⟩
    simp only [show 19 + (1 + c / 32) = 20 + c / 32 by omega]
    rw [this, h, decide_eq_true hc]; rfl
  show ∃ seen', inSet reCode c (31 + 1) 19 true seen = _
  unfold inSet
  show ∃ seen', (if (decide (c < 256) && (reCode.getD (19 + (1 + c / 32)) 0).testBit (c % 32)) = true then _ else _) = _
  rw [hb]
  exact ⟨_, rfl⟩

theorem admitted_none {m : Sre.M} (hc : m.code = reCode) : ∀ (fuel s : Nat) (seen : Sre.Seen), (∀ i, s ≤ i → i < m.lim → special (m.text.getD i 0) = false) → ∃ seen', Sre.M.admitted m fuel s seen = .ok (none, seen')
  | 0, _, seen, _ => ⟨seen, rfl⟩
  | fuel + 1, s, seen, h => by
    unfold Sre.M.admitted
    by_cases hs : s ≥ m.lim
    · rw [if_pos hs]; exact ⟨_, rfl⟩
    · rw [if_neg hs, hc]
      obtain ⟨seen', e⟩ := inSet_no (h s (Nat.le_refl _) (by omega)) seen
      rw [e]
      exact admitted_none hc fuel (s + 1) seen' fun i h1 h2 => h i (by omega) h2
theorem admitted_hit {m : Sre.M} (hc : m.code = reCode) {q : Nat} (hq : q < m.lim) (hsp : special (m.text.getD q 0) = true) : ∀ (fuel s : Nat) (seen : Sre.Seen), s ≤ q → q < s + fuel → (∀ i, s ≤ i → i < q → special (m.text.getD i 0) = false) → ∃ seen', Sre.M.admitted m fuel s seen = .ok (some q, seen')
  | 0, s, _, h1, h2, _ => absurd h2 (by omega)
  | fuel + 1, s, seen, h1, h2, h => by
    unfold Sre.M.admitted
    rw [if_neg (by omega), hc]
    by_cases hs : s = q
    · subst hs
      obtain ⟨seen', e⟩ := inSet_yes hsp seen
      rw [e]
      exact ⟨_, rfl⟩
    · obtain ⟨seen', e⟩ := inSet_no (h s (Nat.le_refl _) (by omega)) seen
      rw [e]
      exact admitted_hit hc hq hsp fuel (s + 1) seen' (by omega) (by omega) fun i h3 h4 => h i (by omega) h4
noncomputable def reStart (text : Array Nat) (pos lim : Nat) (must : Bool) : Sre.M := { code := reCode, text, lim, start := pos, lastStart := lim, pc := 15, pos, handed := pos, marks := #[none, none], mustAdvance := must, seen := ({} : Sre.Seen).add 14 }
theorem fs_eq (text : Array Nat) (pos lim : Nat) (must : Bool) (h : pos < lim) : Sre.forSearch reCode text 1 pos lim must = (reStart text pos lim must).attemptFrom pos true := by
  have e : (decide (pos > lim) || decide (lim - pos < 1)) = false := by
    rw [decide_eq_false (by omega), decide_eq_false (by omega)]; rfl
  show (if (decide (pos > lim) || decide (lim - pos < 1)) = true then _ else _) = _
  rw [e]
  rfl
theorem fs_end (text : Array Nat) (pos lim : Nat) (must : Bool) (h : lim ≤ pos) : Sre.forSearch reCode text 1 pos lim must = { reStart text pos lim must with lastStart := 0 }.say false := by
  have e : (decide (pos > lim) || decide (lim - pos < 1)) = true := by
    rw [decide_eq_true (p := lim - pos < 1) (by omega), Bool.or_true]
  show (if (decide (pos > lim) || decide (lim - pos < 1)) = true then { reStart text pos lim must with lastStart := 0 }.say false else _) = _
  rw [e]
  rfl
theorem first_set (text : Array Nat) (pos lim : Nat) (must : Bool) : (reStart text pos lim must).hasFirstSet = true := rfl
theorem search_none (text : Array Nat) (pos lim : Nat) (must : Bool) (h : ∀ i, pos ≤ i → i < lim → special (text.getD i 0) = false) :
    ∃ m, Sre.forSearch reCode text 1 pos lim must = m ∧ m.outcome = none ∧ m.answer = some false ∧ m.frames = [] := by
  by_cases hp : pos < lim
  · rw [fs_eq text pos lim must hp]
    obtain ⟨seen', e⟩ := admitted_none (m := reStart text pos lim must) rfl (lim + 1 - pos) pos (reStart text pos lim must).seen h
    refine ⟨_, rfl, ?_⟩
    have e2 : (reStart text pos lim must).attemptFrom pos true = { reStart text pos lim must with seen := seen' }.say false := by
      unfold Sre.M.attemptFrom
      rw [first_set]
      show (match Sre.M.admitted (reStart text pos lim must) (lim + 1 - pos) pos (reStart text pos lim must).seen with | .ok (some s, seen) => _ | .ok (none, seen) => _ | .error why => _) = _
      rw [e]
    rw [e2]
    exact ⟨rfl, rfl, rfl⟩
  · exact ⟨_, fs_end text pos lim must (by omega), rfl, rfl, rfl⟩

noncomputable def reFrame (q : Nat) : Sre.Frame := { wait := .nextStart, pc := 15, pos := q, outermost := true }
noncomputable def reM (text : Array Nat) (lim q : Nat) (pc pos handed : Nat) (marks : Array (Option Nat)) (lastmark lastindex : Int) (seen : Sre.Seen) : Sre.M :=
  { code := reCode, text, lim, start := q, lastStart := lim, pc, pos, handed, outermost := true, marks, lastmark, lastindex, frames := [reFrame q], weight := 1, mustAdvance := false, seen }
theorem st_1 (text : Array Nat) (lim q : Nat) (seen : Sre.Seen) : (reM text lim q 15 q q #[none, none] (-1) (-1) seen).step = reM text lim q 17 q q #[some q, none] 0 (-1) (seen.add 17) := rfl
theorem st_2 (text : Array Nat) (lim q : Nat) (seen : Sre.Seen) (hq : q < lim) (hs : special (text.getD q 0) = true) : ∃ seen', (reM text lim q 17 q q #[some q, none] 0 (-1) seen).step = reM text lim q 29 (q + 1) q #[some q, none] 0 (-1) seen' := by
  obtain ⟨seen', e⟩ := inSet_yes2 hs (seen.add 13)
  refine ⟨seen', ?_⟩
  show (if (q ≥ lim) then _ else match (inSet reCode (text.getD q 0) reCode.size 19 true (seen.add 13)) with | .error why => _ | .ok (false, seen) => _ | .ok (true, seen) => _) = _
  rw [if_neg (by omega), e]
  rfl
theorem st_3 (text : Array Nat) (lim q : Nat) (seen : Sre.Seen) : (reM text lim q 29 (q + 1) q #[some q, none] 0 (-1) seen).step = reM text lim q 31 (q + 1) q #[some q, some (q + 1)] 1 1 (seen.add 17) := by kernel_rfl
theorem st_4 (text : Array Nat) (lim q : Nat) (seen : Sre.Seen) : (reM text lim q 31 (q + 1) q #[some q, some (q + 1)] 1 1 seen).step = (reM text lim q 31 (q + 1) (q + 1) #[some q, some (q + 1)] 1 1 (seen.add 1)).say true := rfl
noncomputable def reDone (text : Array Nat) (lim q : Nat) (seen : Sre.Seen) : Sre.M := { reM text lim q 15 q (q + 1) #[some q, some (q + 1)] 1 1 seen with frames := [], weight := 0 }
theorem st_5 (text : Array Nat) (lim q : Nat) (seen : Sre.Seen) : ((reM text lim q 31 (q + 1) (q + 1) #[some q, some (q + 1)] 1 1 seen).say true).step = (reDone text lim q seen).say true := rfl
theorem st_6 (text : Array Nat) (lim q : Nat) (seen : Sre.Seen) : ((reDone text lim q seen).say true).step = { (reDone text lim q seen).say true with outcome := some .matched } := rfl
theorem search_hit (text : Array Nat) (pos lim q : Nat) (must : Bool) (hp : pos ≤ q) (hq : q < lim) (hs : special (text.getD q 0) = true) (h : ∀ i, pos ≤ i → i < q → special (text.getD i 0) = false) :
    ∃ seen, Sre.forSearch reCode text 1 pos lim must = reM text lim q 15 q q #[none, none] (-1) (-1) seen := by
  rw [fs_eq text pos lim must (by omega)]
  obtain ⟨seen', e⟩ := admitted_hit (m := reStart text pos lim must) rfl hq hs (lim + 1 - pos) pos (reStart text pos lim must).seen hp (by omega) h
  refine ⟨seen', ?_⟩
  unfold Sre.M.attemptFrom
  rw [first_set]
  show (match Sre.M.admitted (reStart text pos lim must) (lim + 1 - pos) pos (reStart text pos lim must).seen with | .ok (some s, seen) => _ | .ok (none, seen) => _ | .error why => _) = _
  rw [e]
  rfl
theorem run_hit (text : Array Nat) (lim q : Nat) (seen : Sre.Seen) (hq : q < lim) (hs : special (text.getD q 0) = true) :
    ∃ s1 s2, (reM text lim q 15 q q #[none, none] (-1) (-1) seen).runFor 4 = (reM text lim q 31 (q + 1) (q + 1) #[some q, some (q + 1)] 1 1 s1).say true ∧
      ((reM text lim q 31 (q + 1) (q + 1) #[some q, some (q + 1)] 1 1 s1).say true).runFor 4 = { (reDone text lim q s2).say true with outcome := some .matched } := by
  obtain ⟨s', e2⟩ := st_2 text lim q (seen.add 17) hq hs
  refine ⟨(s'.add 17).add 1, (s'.add 17).add 1, ?_, rfl⟩
  show (((reM text lim q 15 q q #[none, none] (-1) (-1) seen).step).runFor 3) = _
  rw [st_1]
  show (((reM text lim q 17 q q #[some q, none] 0 (-1) (seen.add 17)).step).runFor 2) = _
  rw [e2]
  show (((reM text lim q 29 (q + 1) q #[some q, none] 0 (-1) s').step).runFor 1) = _
  rw [st_3]
  rfl
section
variable {M : Model} {A : Around} {E : Value → Shared → Prop} {s : Shared}
theorem rules_none (names : List Nat) (b : Nat → Bool) (name : Nat → String) {Q : PUnit → Shared → Prop} (h : Q ⟨⟩ s) :
    wpAny M A (forIn names PUnit.unit fun i _ => if b i = true then (do PySem.rule (name i); pure (ForInStep.yield PUnit.unit)) else pure (ForInStep.yield PUnit.unit)) Q E s := by
  refine wpAny_forIn_list _ (fun _ _ s' => s' = s) Q (fun x rest u s' hs => ?_) (fun u s' hs => by subst hs; exact h) _ _ rfl
  subst hs
  split
  · exact wpAny_bind (wpAny_rule (wpAny_pure rfl))
  · exact wpAny_pure rfl
theorem end_none {m : Sre.M} {Q : Option Sre.M → Shared → Prop} (ho : m.outcome = none) (ha : m.answer = some false) (hf : m.frames = []) (h : Q none s) : wpAny M A (Builtin.Re.reRunToEnd m) Q E s := by
  unfold Builtin.Re.reRunToEnd
  have e : Builtin.Re.reDrive (2 ^ 64) m = pure { m with outcome := some .failed } := by
    show (let m' := m.runFor 4; if m'.outcome.isSome = true then pure m' else _) = _
    have e1 : m.runFor 4 = { m with outcome := some .failed } := by
      show (if m.outcome.isSome = true then m else (m.step).runFor 3) = _
      rw [ho]
      have e2 : m.step = { m with outcome := some .failed } := by
        unfold Sre.M.step
        rw [ho, ha, hf]
        rfl
      simp only [Option.isSome_none, Bool.false_eq_true, if_false, e2]
      rfl
    simp only [e1]
    rfl
  rw [e]
  refine wpAny_bind (wpAny_pure ?_)
  refine wpAny_bind (rules_none _ (fun i => m.seen.has i) _ ?_)
  exact wpAny_pure h
theorem drive_step (n : Nat) (m : Sre.M) : Builtin.Re.reDrive (n + 1) m = (if (m.runFor 4).outcome.isSome = true then pure (m.runFor 4) else (do PySem.rule "sre.turn"; Builtin.Re.reDrive n (m.runFor 4))) := rfl
theorem drive_two (n : Nat) {m m1 m2 : Sre.M} (h1 : m.runFor 4 = m1) (o1 : m1.outcome = none) (h2 : m1.runFor 4 = m2) (o2 : m2.outcome.isSome = true) : Builtin.Re.reDrive (n + 1 + 1) m = (do PySem.rule "sre.turn"; pure m2) := by
  rw [drive_step, h1, o1]
  simp only [Option.isSome_none, Bool.false_eq_true, if_false]
  rw [drive_step, h2, o2]
  rfl
theorem big_is : (2 : Nat) ^ 64 = 18446744073709551614 + 1 + 1 := by decide
theorem drive_hit (text : Array Nat) (lim q : Nat) (seen : Sre.Seen) (hq : q < lim) (hs : special (text.getD q 0) = true) :
    ∃ s2, Builtin.Re.reDrive (2 ^ 64) (reM text lim q 15 q q #[none, none] (-1) (-1) seen) = (do PySem.rule "sre.turn"; pure { (reDone text lim q s2).say true with outcome := some .matched }) := by
  obtain ⟨s1, s2, e1, e2⟩ := run_hit text lim q seen hq hs
  exact ⟨s2, by rw [big_is]; exact drive_two _ e1 rfl e2 rfl⟩
theorem end_hit {text : Array Nat} {lim q : Nat} {seen : Sre.Seen} {Q : Option Sre.M → Shared → Prop} (hq : q < lim) (hs : special (text.getD q 0) = true)
    (h : ∀ s2, Q (some { (reDone text lim q s2).say true with outcome := some .matched }) s) : wpAny M A (Builtin.Re.reRunToEnd (reM text lim q 15 q q #[none, none] (-1) (-1) seen)) Q E s := by
  obtain ⟨s2, e⟩ := drive_hit text lim q seen hq hs
  unfold Builtin.Re.reRunToEnd
  rw [e]
  refine wpAny_bind (wpAny_bind (wpAny_rule (wpAny_pure ?_)))
  refine wpAny_bind (rules_none _ (fun i => s2.has i) _ ?_)
  exact wpAny_pure (h s2)
noncomputable def reTgt (x : Str) (t : Tok) : Builtin.Re.ReTarget := { pattern := .ref 36, string := .str x t, code := reCode, text := x.cps, kind := 0, groups := 1, pos := 0, lim := x.cps.size }
theorem find_none {x : Str} {t : Tok} {start : Nat} {must : Bool} {Q : Option Sre.M → Shared → Prop} (hn : ∀ i, start ≤ i → i < x.cps.size → special (x.cps.getD i 0) = false) (h : Q none s) : wpAny M A (Builtin.Re.reNextFound (reTgt x t) start must) Q E s := by
  obtain ⟨m, e, h1, h2, h3⟩ := search_none x.cps start x.cps.size must hn
  show wpAny M A (Builtin.Re.reRunToEnd (Sre.forSearch reCode x.cps 1 start x.cps.size must)) Q E s
  rw [e]
  exact end_none h1 h2 h3 h
theorem find_hit {x : Str} {t : Tok} {start q : Nat} {must : Bool} {Q : Option Sre.M → Shared → Prop} (hp : start ≤ q) (hq : q < x.cps.size) (hs : special (x.cps.getD q 0) = true) (hn : ∀ i, start ≤ i → i < q → special (x.cps.getD i 0) = false)
    (h : ∀ s2, Q (some { (reDone x.cps x.cps.size q s2).say true with outcome := some .matched }) s) : wpAny M A (Builtin.Re.reNextFound (reTgt x t) start must) Q E s := by
  obtain ⟨seen, e⟩ := search_hit x.cps start x.cps.size q must hp hq hs hn
  show wpAny M A (Builtin.Re.reRunToEnd (Sre.forSearch reCode x.cps 1 start x.cps.size must)) Q E s
  rw [e]
  exact end_hit hq hs h
theorem find_hit2 {x : Str} {t : Tok} {start q : Nat} {must : Bool} {Q : Option Sre.M → Shared → Prop} (hp : start ≤ q) (hq : q < x.cps.size) (hs : special (x.cps.getD q 0) = true) (hn : ∀ i, start ≤ i → i < q → special (x.cps.getD i 0) = false)
    (h : ∀ code text lim ls wt ma pc pos om lo inn fr we an se oc, Q (some ⟨code, text, lim, q, ls, wt, ma, pc, pos, q + 1, om, #[some q, some (q + 1)], 1, 1, lo, inn, fr, we, an, se, oc⟩) s) : wpAny M A (Builtin.Re.reNextFound (reTgt x t) start must) Q E s :=
  find_hit hp hq hs hn fun s2 => h _ _ _ _ _ _ _ _ _ _ _ _ _ _ _ _
end
end
section
open PySem PySem.W PyProof.Rows PySem.Spec PySem.Calls
noncomputable def o36 (P : Params) : Obj := ((laid.heap_1 P).lookup 36).getD default
noncomputable def o35 (P : Params) : Obj := ((laid.heap_1 P).lookup 35).getD default
theorem o36_in (P : Params) : (laid.heap_1 P).lookup 36 = some (o36 P) := rfl
theorem o35_in (P : Params) : (laid.heap_1 P).lookup 35 = some (o35 P) := rfl
section
variable {prog : Program} {w : World} {M : Model} {A : Around} {E : Value → Shared → Prop} {s : Shared}
theorem target_ok {x : Str} {t : Tok} {Q : Builtin.Re.ReTarget → Shared → Prop} (X : (laid.heap_1 w.params).In s.heap) (h : Q (reTgt x t) s) : wpAny (model prog w) A (Builtin.Re.reWholeTarget (.ref 36) (.str x t)) Q E s := by
  have h36 := X _ _ (o36_in w.params)
  have h35 := X _ _ (o35_in w.params)
  unfold Builtin.Re.reWholeTarget
  repeat (any_goals (first | assumption | wp_step))
  exact (congrArg (fun c => Q ⟨.ref 36, .str x t, c, x.cps, 0, 1, 0, x.cps.size⟩ s) (show _ = reCode by kernel_rfl)).mpr h
theorem slice_ok {x : Array Nat} {b e : Nat} {Q : Value → Shared → Prop} (hsz : x.size ≤ 1000) (h : Q (.str ⟨x.extract b e⟩ s.toks) { s with toks := s.toks + 1 }) : wpAny M A (Builtin.Re.reSlice x 0 b e) Q E s := by
  unfold Builtin.Re.reSlice
  rw [if_pos (by rfl)]
  refine wpAny_mkStr h ?_
  show (x.extract b e).size ≤ sizeLine
  rw [sizeLine_eq, Array.size_extract]
  omega
theorem push_ok {l : Addr} {its : Array Value} {n : Nat} {v : Value} {Q : Unit → Shared → Prop} {h₀ : Heap} {L : Addr} {m : Str → Option Value} {news : List (Addr × Obj)} (hz : its.size ≤ 1000) (F : Fr h₀ L s.heap m) (N : News h₀ L s.heap ((l, listOf its n) :: news)) (hne : ∀ p ∈ news, p.1 ≠ l)
    (h : ∀ h', Fr h₀ L h' m → News h₀ L h' ((l, listOf (its.push v) (n + 1)) :: news) → Q () { s with heap := h' }) : wpAny M A (updateSeq l (·.push v)) Q E s := by
  have z := N (l, listOf its n) (.head _)
  refine wpAny_updateSeq z.1 rfl ?_ (by rw [sizeLine_eq]; omega) (by rw [sizeLine_eq, Array.size_push]; omega)
  have hs : Heap.SameBut l s.heap (s.heap.update l (Obj.mapSeq (·.push v))) := Heap.SameBut.update ..
  exact h _ (F.change hs z.2.1 z.2.2) (news_set (pre := []) N (fun _ hp => nomatch hp) hne hs (by rw [Heap.get?_update_self _ z.1 (by rw [mapSeq_push]; rfl), mapSeq_push]))
theorem strsAre_app : ∀ {vs ws : List Value} {xs ys : List Str}, StrsAre vs xs → StrsAre ws ys → StrsAre (vs ++ ws) (xs ++ ys)
  | _, _, _, _, .nil, h => h
  | _, _, _, _, .cons x t r, h => .cons x t (strsAre_app r h)
noncomputable def matchObj (x : Str) (t : Tok) (q : Nat) (tp : Addr) : Obj := { cls := .type "re.Match", data := .fields #[.str x t, .ref 36, rawInt 0, rawInt (x.cps.size : Int), rawInt 1, .ref tp] }
noncomputable def spansObj (q : Nat) : Obj := { cls := .type "tuple", data := .seq #[rawInt (q : Int), rawInt ((q + 1 : Nat) : Int), rawInt (q : Int), rawInt ((q + 1 : Nat) : Int)] }
theorem newMatch_ok {x : Str} {t : Tok} {q : Nat} {code text : Array Nat} {lim ls : Nat} {wt ma : Bool} {pc pos : Nat} {om : Bool} {lo inn fr we an se oc} {Q : Value → Shared → Prop}
    (h : Q (.ref (s.heap.push (spansObj q)).objs.size) { s with heap := (s.heap.push (spansObj q)).push (matchObj x t q s.heap.objs.size) }) :
    wpAny M A (Builtin.Re.reNewMatch (.ref 36) (.str x t) 1 0 x.cps.size ⟨code, text, lim, q, ls, wt, ma, pc, pos, q + 1, om, #[some q, some (q + 1)], 1, 1, lo, inn, fr, we, an, se, oc⟩) Q E s := by
  unfold Builtin.Re.reNewMatch
  dsimp only
  rw [if_neg (by simp [List.range_succ])]
  show wpAny _ _ (do let tp ← newTuple [rawInt (q : Int), rawInt ((q + 1 : Nat) : Int), rawInt (q : Int), rawInt ((q + 1 : Nat) : Int)]; newFields "re.Match" [.str x t, .ref 36, rawInt 0, rawInt (x.cps.size : Int), rawInt 1, tp]) _ _ _
  refine wpAny_bind (wpAny_newTuple ?_)
  exact wpAny_newObj_type h

theorem slot_sub : Slot "re.Pattern" "sub" "re.Pattern.sub" :=
  .of (owner := "re.Pattern") (n := "sub") (by rw [typeLookup_type, builtinLookup_eq_fast]; kernel_rfl) (by decide +kernel) (by decide +kernel) (by decide +kernel)
    (by first | exact .inl (by decide +kernel) | exact .inr (by decide +kernel)) (by rw [isSubtype_type]; kernel_rfl)
theorem type_sub : typeOf (.builtin "re.Pattern.sub") = pure (.type "method_descriptor") := by show builtinType _ = _; rw [builtinType_eq_fast]; kernel_rfl
theorem entry_sub : entryFor table "re.Pattern.sub" = some Builtin.«re.Pattern.sub» := entryFor_of_tree (by kernel_rfl)
theorem entry_loop : entryFor table "re.Pattern.sub.loop" = some Builtin.«re.Pattern.sub.loop» := entryFor_of_tree (by kernel_rfl)
theorem args_sub (a b c : Value) : argsOk "re.Pattern.sub" ⟨[a, b, c], []⟩ := by unfold argsOk; kernel_rfl
theorem slot_gr : Slot "re.Match" "group" "re.Match.group" :=
  .of (owner := "re.Match") (n := "group") (by rw [typeLookup_type, builtinLookup_eq_fast]; kernel_rfl) (by decide +kernel) (by decide +kernel) (by decide +kernel)
    (by first | exact .inl (by decide +kernel) | exact .inr (by decide +kernel)) (by rw [isSubtype_type]; kernel_rfl)
theorem type_gr : typeOf (.builtin "re.Match.group") = pure (.type "method_descriptor") := by show builtinType _ = _; rw [builtinType_eq_fast]; kernel_rfl
theorem entry_gr : entryFor table "re.Match.group" = some Builtin.«re.Match.group» := entryFor_of_tree (by kernel_rfl)
theorem args_gr (a b : Value) : argsOk "re.Match.group" ⟨[a, b], []⟩ := by unfold argsOk; kernel_rfl
theorem plainAttrs_pat : PlainAttrs "re.Pattern" :=
  ⟨⟨"object.__getattribute__", by rw [typeLookup_type, builtinLookup_eq_fast]; kernel_rfl, by decide +kernel⟩, by rw [typeLookup_type, builtinLookup_eq_fast]; kernel_rfl⟩
theorem plainAttrs_mat : PlainAttrs "re.Match" :=
  ⟨⟨"object.__getattribute__", by rw [typeLookup_type, builtinLookup_eq_fast]; kernel_rfl, by decide +kernel⟩, by rw [typeLookup_type, builtinLookup_eq_fast]; kernel_rfl⟩
/-- the loop's last turn: what is left is laid behind, all is joined -/
theorem loop_last {h₀ : Heap} {L : Addr} {m : Str → Option Value} {news : List (Addr × Obj)} {x : Str} {t : Tok} {f l : Addr} {its : Array Value} {ys : List Str} {n done start k : Nat} {must : Bool} {R : Result → Shared → Prop} (X₀ : (laid.heap_1 w.params).In h₀) (F : Fr h₀ L s.heap m) (N : News h₀ L s.heap ((l, listOf its n) :: news)) (hnl : ∀ p ∈ news, p.1 ≠ l) (hi : StrsAre its.toList ys) (hz : its.size ≤ 500) (hsz : x.cps.size ≤ 1000) (hys : (ys.map (·.length)).sum ≤ 10000)
    (hn : ∀ i, start ≤ i → i < x.cps.size → special (x.cps.getD i 0) = false) (hne : ys ≠ [] ∨ done < x.cps.size)
    (h : ∀ h' tk t', Fr h₀ L h' m → News h₀ L h' news → R (.ok (.ret (.str (Txt.join Str.empty (if done < x.cps.size then ys ++ [⟨x.cps.extract done x.cps.size⟩] else ys)) t'))) { s with heap := h', toks := tk }) :
    codeAny (model prog w) A (.builtin "re.Pattern.sub.loop" ⟨[.ref 36, .str x t, .ref f, rawInt 1, rawInt 0, rawInt k, rawInt done, rawInt start, .bool must, .ref l, .bool false], []⟩) R s := by
  have X := X₀.keeps F.keep
  have hl := N.get (.head _)
  refine codeAny_builtin entry_loop ?_
  rw [Around.under_plainId (by decide +kernel)]
  unfold Builtin.«re.Pattern.sub.loop»
  repeat (any_goals (first | assumption | ((with_reducible show wpAny _ _ (Builtin.Re.reWholeTarget _ _) _ _ _); refine target_ok X ?_) | ((with_reducible show wpAny _ _ (Builtin.Re.reNextFound _ _ _) _ _ _); refine find_none (fun i h1 h2 => hn i h1 h2) ?_) | wp_step))
  have hlen : its.size = ys.length := by have := hi.len_eq; simpa using this
  have e0 : (⟨x.cps.extract 0 0⟩ : Str) = Str.empty := by simp [Str.empty]
  by_cases hd : done < x.cps.size
  · rw [if_pos (show (done : Int).toNat < (reTgt x t).lim from hd)]
    rw [if_pos hd] at h
    refine wpAny_bind (slice_ok (x := x.cps) hsz ?_)
    refine wpAny_bind (push_ok (by omega) F N hnl fun h' F' N' => ?_)
    have hl' := N'.get (.head _)
    dsimp only
    refine wpAny_bind (slice_ok (x := x.cps) hsz ?_)
    repeat (any_goals (first | assumption | ((fail_if_success (with_reducible show wpAny _ _ (PySem.call _ _ _) _ _ _)); wp_step)))
    show wpAny _ _ (call (.builtin "str.join") [.str ⟨x.cps.extract 0 0⟩ _, .ref l]) _ _ _
    rw [e0]
    refine join_list (items := its.push (.str ⟨x.cps.extract done x.cps.size⟩ s.toks)) ⟨_, N'.get (.head _), rfl, _, rfl⟩ (ys := ys ++ [⟨x.cps.extract done x.cps.size⟩]) ?_ ?_ fun t' k' => ?_
    · rw [Array.toList_push]; exact strsAre_app hi (.cons _ _ .nil)
    · rw [List.map_append, List.sum_append, List.length_append]
      simp only [List.map_cons, List.map_nil, List.sum_cons, List.sum_nil, List.length_cons, List.length_nil]
      have h1 : (⟨x.cps.extract done x.cps.size⟩ : Str).length ≤ 1000 := by show (x.cps.extract done x.cps.size).size ≤ 1000; rw [Array.size_extract]; omega
      have h2 : (Str.empty).length = 0 := rfl
      rw [h2]; omega
    · repeat (any_goals (first | assumption | wp_step))
      exact h h' k' t' F' fun p hp => N' p (.tail _ hp)
  · rw [if_neg (show ¬ (done : Int).toNat < (reTgt x t).lim from hd)]
    rw [if_neg hd] at h
    have hne' : its ≠ #[] := by
      rintro rfl
      rcases hne with hne | hne
      · cases ys with
        | nil => exact hne rfl
        | cons y ys => simp at hlen
      · exact hd hne
    dsimp only
    refine wpAny_bind (slice_ok (x := x.cps) hsz ?_)
    have hemp : its.isEmpty = false := by cases h9 : its.isEmpty with | false => rfl | true => exact absurd (Array.isEmpty_iff.mp h9) hne'
    have hemp2 : ((some its).getD #[]).isEmpty = false := hemp
    repeat (any_goals (first | assumption | ((fail_if_success (with_reducible show wpAny _ _ (PySem.call _ _ _) _ _ _)); wp_step)))
    show wpAny _ _ (call (.builtin "str.join") [.str ⟨x.cps.extract 0 0⟩ _, .ref l]) _ _ _
    rw [e0]
    refine join_list (items := its) ⟨_, N.get (.head _), rfl, _, rfl⟩ (ys := ys) hi ?_ fun t' k' => ?_
    · have h2 : (Str.empty).length = 0 := rfl
      rw [h2]; omega
    · repeat (any_goals (first | assumption | wp_step))
      exact h s.heap k' t' F fun p hp => N p (.tail _ hp)
theorem gm_sub {pl : Sem Bool} {Q : Value × List Value → Shared → Prop} (X : (laid.heap_1 w.params).In s.heap) (h : Q (.builtin "re.Pattern.sub", [.ref 36]) s) : wpAny M A (getMethod (.ref 36) "sub" pl) Q E s :=
  getMethod_builtin (T := "re.Pattern") ⟨_, X _ _ (o36_in w.params), rfl⟩ plainAttrs_pat slot_sub type_sub (fun a e => by cases e; exact ⟨_, X _ _ (o36_in w.params), rfl⟩) h
theorem gm_gr {x : Str} {t : Tok} {q : Nat} {mt tp : Addr} {pl : Sem Bool} {Q : Value × List Value → Shared → Prop} (hm : s.heap.get? mt = some (matchObj x t q tp)) (h : Q (.builtin "re.Match.group", [.ref mt]) s) : wpAny M A (getMethod (.ref mt) "group" pl) Q E s :=
  getMethod_builtin (T := "re.Match") ⟨_, hm, rfl⟩ plainAttrs_mat slot_gr type_gr (fun a e => by cases e; exact ⟨_, hm, rfl⟩) h
theorem call_gr {x : Str} {t u : Tok} {q : Nat} {mt tp : Addr} {Q : Value → Shared → Prop} (hm : s.heap.get? mt = some (matchObj x t q tp)) (hp : s.heap.get? tp = some (spansObj q)) (hsz : x.cps.size ≤ 1000)
    (h : ∀ t' tk, Q (.str ⟨x.cps.extract q (q + 1)⟩ t') { s with toks := tk }) : wpAny (model prog w) A (call (.builtin "re.Match.group") [.ref mt, .int 1 u]) Q E s := by
  refine wpAny_call_entry slot_gr ⟨_, hm, rfl⟩ entry_gr ?_ (args_gr _ _)
  unfold Builtin.«re.Match.group»
  repeat (any_goals (first | assumption | ((with_reducible show wpAny _ _ (Builtin.Re.reSlice _ _ _ _) _ _ _); refine slice_ok (x := x.cps) hsz ?_) | wp_step))
  have hmap : Array.map Builtin.Re.reRawOf ((some #[rawInt (q : Int), rawInt ((q + 1 : Nat) : Int), rawInt (q : Int), rawInt ((q + 1 : Nat) : Int)]).getD #[]) = #[(q : Int), ((q + 1 : Nat) : Int), (q : Int), ((q + 1 : Nat) : Int)] := by
    simp [Builtin.Re.reRawOf, rawInt]
  simp only [hmap]
  split
  · rename_i hc
    have hc' : (decide ((q : Int) < 0) || decide (((q + 1 : Nat) : Int) < 0)) = true := hc
    simp at hc'
    omega
  repeat (any_goals (first | assumption | ((with_reducible show wpAny _ _ (Builtin.Re.reSlice _ _ _ _) _ _ _); refine slice_ok (x := x.cps) hsz ?_) | wp_step))
  exact ⟨_, rfl, h _ _⟩

noncomputable def LamOk (prog : Program) (w : World) (A : Around) (f : Addr) (x : Str) (t : Tok) (q : Nat) (y : Str) (h₀ : Heap) (L : Addr) (m : Str → Option Value) (news : List (Addr × Obj)) : Prop :=
  ∀ (its : Array Value) (n : Nat) (l mt tp : Addr) (s : Shared) (Q E : Value → Shared → Prop), Fr h₀ L s.heap m → News h₀ L s.heap ((mt, matchObj x t q tp) :: (tp, spansObj q) :: (l, listOf its n) :: news) → (∀ p ∈ news, p.1 < l) → l < tp → tp < mt →
    (∀ t' h2 tk2, Fr h₀ L h2 m → News h₀ L h2 ((mt, matchObj x t q tp) :: (tp, spansObj q) :: (l, listOf its n) :: news) → Q (.str y t') { s with heap := h2, toks := tk2 }) →
    wpAny (model prog w) A (call (.ref f) [.ref mt]) Q E s
theorem wpAny_again {c : Code} {P : PySem.Fin → Shared → Prop} (h : P (.again c) s) : wpAny M A (again c) P E s := wpAny_pure h
theorem loop_tail {h₀ : Heap} {L : Addr} {m : Str → Option Value} {news : List (Addr × Obj)} {x y : Str} {t : Tok} {f l mt tp : Addr} {q n : Nat} {its : Array Value} {ys : List Str} {R : Result → Shared → Prop} {t' : Tok} {E' : Value → Shared → Prop} (X₀ : (laid.heap_1 w.params).In h₀) (F : Fr h₀ L s.heap m)
    (N : News h₀ L s.heap ((mt, matchObj x t q tp) :: (tp, spansObj q) :: (l, listOf its n) :: news)) (hnl : ∀ p ∈ news, p.1 < l) (h1 : l < tp) (h2 : tp < mt)
    (hi : StrsAre its.toList ys) (hz : its.size ≤ 1) (hys : (ys.map (·.length)).sum ≤ 1000)
    (hq : q + 1 = x.cps.size) (hsz : x.cps.size ≤ 1000) (hy : y.cps.size ≤ 100)
    (h : ∀ h' tk t', Fr h₀ L h' m → News h₀ L h' news → R (.ok (.ret (.str (Txt.join Str.empty (ys ++ [y])) t'))) { s with heap := h', toks := tk }) :
    wpAny (model prog w) A.in1 (do
      updateSeq l fun x => x.push (Value.str y t')
      again (.builtin "re.Pattern.sub.loop" ⟨[.ref 36, .str x t, .ref f, rawInt 1, rawInt 0, rawInt (0 + 1), rawInt ((q + 1 : Nat) : Int), rawInt ((q + 1 : Nat) : Int), .bool (q + 1 == q), .ref l, .bool false], []⟩))
      (fun fin s' => match fin with | .done f => R (.ok f) s' | .again c' => c'.quiet = true ∧ codeAny (model prog w) A c' R s') E' s := by
  have N1 : News h₀ L s.heap ((l, listOf its n) :: (mt, matchObj x t q tp) :: (tp, spansObj q) :: news) := fun p hp => N p (by
    rcases List.mem_cons.mp hp with rfl | hp
    · exact .tail _ (.tail _ (.head _))
    · rcases List.mem_cons.mp hp with rfl | hp
      · exact .head _
      · rcases List.mem_cons.mp hp with rfl | hp
        · exact .tail _ (.head _)
        · exact .tail _ (.tail _ (.tail _ hp)))
  have hne : ∀ p ∈ (mt, matchObj x t q tp) :: (tp, spansObj q) :: news, p.1 ≠ l := by
    intro p hp
    rcases List.mem_cons.mp hp with rfl | hp
    · exact Nat.ne_of_gt (Nat.lt_trans h1 h2)
    · rcases List.mem_cons.mp hp with rfl | hp
      · exact Nat.ne_of_gt h1
      · exact Nat.ne_of_lt (hnl p hp)
  refine wpAny_bind (push_ok (by omega) F N1 hne fun h' F' N' => ?_)
  refine wpAny_again ⟨Code.quiet_builtin _ (by decide +kernel), ?_⟩
  have hyl : y.length ≤ 100 := hy
  refine loop_last (done := q + 1) (start := q + 1) (ys := ys ++ [y]) (k := 0 + 1) X₀ F' N' hne (by rw [Array.toList_push]; exact strsAre_app hi (.cons _ _ .nil)) (by rw [Array.size_push]; omega) hsz
    (by rw [List.map_append, List.sum_append]; simp only [List.map_cons, List.map_nil, List.sum_cons, List.sum_nil]; omega) (fun i h3 h4 => by omega) (.inl (by simp)) fun h' tk t'' F'' N'' => ?_
  rw [if_neg (by omega)]
  exact h h' tk t'' F'' fun p hp => N'' p (.tail _ (.tail _ hp))
theorem join_two (a y : Str) : Txt.join Str.empty ([a] ++ [y]) = ⟨a.cps ++ y.cps⟩ := by
  show (⟨a.cps ++ #[] ++ y.cps⟩ : Str) = _
  simp
theorem join_one (y : Str) : Txt.join Str.empty ([] ++ [y]) = y := rfl
theorem join_nil : Txt.join Str.empty [] = Str.empty := rfl
theorem loop_hit {h₀ : Heap} {L : Addr} {m : Str → Option Value} {news : List (Addr × Obj)} {x y : Str} {t : Tok} {f l : Addr} {q : Nat} {R : Result → Shared → Prop} (X₀ : (laid.heap_1 w.params).In h₀) (F : Fr h₀ L s.heap m) (N : News h₀ L s.heap ((l, listOf #[] 0) :: news)) (hnl : ∀ p ∈ news, p.1 < l)
    (hq : q + 1 = x.cps.size) (hsz : x.cps.size ≤ 1000) (hy : y.cps.size ≤ 100)
    (hs : special (x.cps.getD q 0) = true) (hn : ∀ i, i < q → special (x.cps.getD i 0) = false) (C : LamOk prog w A.in1 f x t q y h₀ L m news)
    (h : ∀ h' tk t', Fr h₀ L h' m → News h₀ L h' news → R (.ok (.ret (.str ⟨x.cps.extract 0 q ++ y.cps⟩ t'))) { s with heap := h', toks := tk }) :
    codeAny (model prog w) A (.builtin "re.Pattern.sub.loop" ⟨[.ref 36, .str x t, .ref f, rawInt 1, rawInt 0, rawInt 0, rawInt 0, rawInt 0, .bool false, .ref l, .bool false], []⟩) R s := by
  have X := X₀.keeps F.keep
  have hl := N.get (.head _)
  refine codeAny_builtin entry_loop ?_
  rw [Around.under_plainId (by decide +kernel)]
  unfold Builtin.«re.Pattern.sub.loop»
  repeat (any_goals (first | assumption | ((with_reducible show wpAny _ _ (Builtin.Re.reWholeTarget _ _) _ _ _); refine target_ok X ?_) | ((with_reducible show wpAny _ _ (Builtin.Re.reNextFound _ _ _) _ _ _); refine find_hit2 (q := q) (Nat.zero_le _) (by omega) hs (fun i _ h2 => hn i h2) fun code text lim ls wt ma pc pos om lo inn fr we an se oc => ?_) | ((fail_if_success (with_reducible show wpAny _ _ (PySem.call _ _ _) _ _ _)); wp_step)))
  dsimp only
  by_cases h0 : 0 < q
  · rw [if_pos (show Int.toNat 0 < q from h0)]
    refine wpAny_bind (slice_ok (x := x.cps) hsz ?_)
    refine wpAny_bind (push_ok (by simp) F N (fun p hp => Nat.ne_of_lt (hnl p hp)) fun h' F' N' => ?_)
    dsimp only
    repeat (any_goals (first | assumption | ((with_reducible show wpAny _ _ (Builtin.Re.reNewMatch _ _ _ _ _ _) _ _ _); refine newMatch_ok ?_) | ((fail_if_success (with_reducible show wpAny _ _ (PySem.call _ _ _) _ _ _)); wp_step)))
    have F2 := (F'.push (spansObj q)).push (matchObj x t q h'.objs.size)
    have N2 := News.push (F'.push (spansObj q)) (News.push F' N' (spansObj q)) (matchObj x t q h'.objs.size)
    refine C _ _ l _ _ _ _ _ F2 N2 hnl (Heap.lt_size (N' _ (.head _)).1) (by rw [Heap.size_push]; exact Nat.lt_succ_self _) fun t' h2 tk2 F3 N3 => ?_
    refine KFB.if_so (by rfl) ?_
    refine loop_tail (its := #[].push (.str ⟨x.cps.extract (Int.toNat 0) q⟩ _)) (ys := [⟨x.cps.extract 0 q⟩]) X₀ F3 N3 hnl (Heap.lt_size (N' _ (.head _)).1) (by rw [Heap.size_push]; exact Nat.lt_succ_self _) (.cons _ _ .nil) (by simp) ?_ hq hsz hy fun h' tk t' F4 N4 => ?_
    · show (x.cps.extract 0 q).size + 0 ≤ 1000
      rw [Array.size_extract]; omega
    · have := h h' tk t' F4 N4
      rw [join_two]
      exact this
  · rw [if_neg (show ¬ Int.toNat 0 < q from h0)]
    repeat (any_goals (first | assumption | ((with_reducible show wpAny _ _ (Builtin.Re.reNewMatch _ _ _ _ _ _) _ _ _); refine newMatch_ok ?_) | ((fail_if_success (with_reducible show wpAny _ _ (PySem.call _ _ _) _ _ _)); wp_step)))
    have F2 := (F.push (spansObj q)).push (matchObj x t q s.heap.objs.size)
    have N2 := News.push (F.push (spansObj q)) (News.push F N (spansObj q)) (matchObj x t q s.heap.objs.size)
    refine C _ _ l _ _ _ _ _ F2 N2 hnl (Heap.lt_size (N _ (.head _)).1) (by rw [Heap.size_push]; exact Nat.lt_succ_self _) fun t' h2 tk2 F3 N3 => ?_
    refine KFB.if_so (by rfl) ?_
    refine loop_tail (its := #[]) (ys := []) X₀ F3 N3 hnl (Heap.lt_size (N _ (.head _)).1) (by rw [Heap.size_push]; exact Nat.lt_succ_self _) .nil (by simp) (by simp) hq hsz hy fun h' tk t' F4 N4 => ?_
    have := h h' tk t' F4 N4
    have e0 : q = 0 := by omega
    subst e0
    rw [join_one]
    simpa using this

theorem special_fn : typeLookup (.type "function") "__call__" = pure (some (.builtin "function.__call__")) := by rw [typeLookup_type, builtinLookup_eq_fast]; kernel_rfl
theorem sub_enter {f : Addr} {x : Str} {t : Tok} {of : Obj} {R : Result → Shared → Prop} {E : Value → Shared → Prop} (X : (laid.heap_1 w.params).In s.heap) (hf : s.heap.get? f = some of) (hc : of.cls = .type "function")
    (h : wpAny (model prog w) A.in1 (Builtin.«re.Pattern.sub» ⟨[.ref 36, .ref f, .str x t], []⟩) (fun fin s' => match fin with | .done f => R (.ok f) s' | .again c' => c'.quiet = true ∧ codeAny (model prog w) A c' R s') (fun e s' => R (.error e) s') s) :
    codeAny (model prog w) A (.call (.builtin "re.Pattern.sub") ⟨[.ref 36, .ref f, .str x t], []⟩) R s :=
  codeAny_call_builtin slot_sub.plain entry_sub (slot_sub.check _ _ _ _ _ _ _ _ ⟨_, X _ _ (o36_in w.params), rfl⟩ (args_sub _ _ _) h)
theorem sub_tree {f : Addr} {x : Str} {t : Tok} {of : Obj} {P : PySem.Fin → Shared → Prop} {E : Value → Shared → Prop} (X : (laid.heap_1 w.params).In s.heap) (hf : s.heap.get? f = some of) (hc : of.cls = .type "function")
    (h : P (.again (.builtin "re.Pattern.sub.loop" ⟨[.ref 36, .str x t, .ref f, rawInt 1, rawInt 0, rawInt 0, rawInt 0, rawInt 0, .bool false, .ref s.heap.objs.size, .bool false], []⟩)) { s with heap := s.heap.push (listOf #[] 0) }) :
    wpAny (model prog w) A (Builtin.«re.Pattern.sub» ⟨[.ref 36, .ref f, .str x t], []⟩) P E s := by
  have hT : s.TypeIs (.ref f) "function" := ⟨_, hf, hc⟩
  have f1 := special_fn
  have f2 : isSubtype (.type "str") (.type "bytearray") = pure false := by rw [isSubtype_type]; kernel_rfl
  unfold Builtin.«re.Pattern.sub» Builtin.Re.reSubstitute
  repeat (any_goals (first | assumption | ((with_reducible show wpAny _ _ (Builtin.Re.reWholeTarget _ _) _ _ _); refine target_ok X ?_) | ((fail_if_success (with_reducible show wpAny _ _ (PySem.call _ _ _) _ _ _)); wp_step)))
variable {h₀ : Heap} {L : Addr} {m : Str → Option Value} {news : List (Addr × Obj)}
theorem sub_none {f : Addr} {x : Str} {t : Tok} {of : Obj} {Q : Value → Shared → Prop} (X₀ : (laid.heap_1 w.params).In h₀) (F : Fr h₀ L s.heap m) (N : News h₀ L s.heap news) (hf : (f, of) ∈ news) (hc : of.cls = .type "function")
    (hsz : x.cps.size ≤ 1000) (hp : 0 < x.cps.size) (hn : ∀ i, i < x.cps.size → special (x.cps.getD i 0) = false)
    (h : ∀ h' tk t', Fr h₀ L h' m → News h₀ L h' news → Q (.str x t') { s with heap := h', toks := tk }) :
    wpAny (model prog w) A (call (.builtin "re.Pattern.sub") [.ref 36, .ref f, .str x t]) Q E s := by
  refine wpAny_call (sub_enter (E := E) (X₀.keeps F.keep) (N _ hf).1 hc ?_)
  refine sub_tree (X₀.keeps F.keep) (N _ hf).1 hc ?_
  refine ⟨Code.quiet_builtin _ (by decide +kernel), ?_⟩
  refine loop_last (done := 0) (start := 0) (k := 0) (ys := []) X₀ (F.push _) (News.push F N _) (fun p hp => Nat.ne_of_lt (Heap.lt_size (N p hp).1)) .nil (by simp) hsz (by simp) (fun i _ h2 => hn i h2) (.inr hp) fun h' tk t' F' N' => ?_
  have := h h' tk t' F' N'
  rw [if_pos hp, join_one]
  have e : (⟨x.cps.extract 0 x.cps.size⟩ : Str) = x := by simp
  rw [e]
  exact this
theorem sub_hit {f : Addr} {x y : Str} {t : Tok} {q : Nat} {of : Obj} {Q : Value → Shared → Prop} (X₀ : (laid.heap_1 w.params).In h₀) (F : Fr h₀ L s.heap m) (N : News h₀ L s.heap news) (hf : (f, of) ∈ news) (hc : of.cls = .type "function")
    (hq : q + 1 = x.cps.size) (hsz : x.cps.size ≤ 1000) (hy : y.cps.size ≤ 100) (hs : special (x.cps.getD q 0) = true) (hn : ∀ i, i < q → special (x.cps.getD i 0) = false) (C : LamOk prog w A.in1 f x t q y h₀ L m news)
    (h : ∀ h' tk t', Fr h₀ L h' m → News h₀ L h' news → Q (.str ⟨x.cps.extract 0 q ++ y.cps⟩ t') { s with heap := h', toks := tk }) :
    wpAny (model prog w) A (call (.builtin "re.Pattern.sub") [.ref 36, .ref f, .str x t]) Q E s := by
  refine wpAny_call (sub_enter (E := E) (X₀.keeps F.keep) (N _ hf).1 hc ?_)
  refine sub_tree (X₀.keeps F.keep) (N _ hf).1 hc ?_
  refine ⟨Code.quiet_builtin _ (by decide +kernel), ?_⟩
  exact loop_hit X₀ (F.push _) (News.push F N _) (fun p hp => Heap.lt_size (N p hp).1) hq hsz hy hs hn C fun h' tk t' F' N' => h h' tk t' F' N'
end
end
section
open PySem PySem.W PyProof.Rows PySem.Spec PySem.Calls
theorem among_app {pos : Pos} {a b : Int} {c : Value} (l : List Value) (h : TriplesOk l) :
    codeAmong pos (l ++ [rawInt a, rawInt b, c]) = (match codeAmong pos l with | some v => some v | none => if a == pos.line && b == pos.col then some c else none) := by
  fun_induction TriplesOk l with
  | case1 => simp [codeAmong, rawInt]
  | case2 a' t b' u x rest ih =>
    simp only [List.cons_append, codeAmong]
    split
    · rfl
    · exact ih h
  | case3 l h1 h2 => exact h.elim
noncomputable def CodeOk (ps : Array Value) (codes : List (Addr × Obj)) (line col : Nat) (qual : Str) : Prop :=
  (∀ pos : Pos, pos.line = line → pos.col = col → codeAmong pos ps.toList = none) ∨
    ∃ c' oc vs t, (∀ pos : Pos, pos.line = line → pos.col = col → codeAmong pos ps.toList = some (.ref c')) ∧ (c', oc) ∈ codes ∧ oc.data = .fields vs ∧ vs[1]? = some (.str qual t)
theorem CodeOk.more {ps : Array Value} {codes codes' : List (Addr × Obj)} {line col : Nat} {qual : Str} (h : CodeOk ps codes line col qual) (ht : TriplesOk ps.toList) (hc : ∀ p ∈ codes, p ∈ codes') {a b : Int} {c : Value} (hne : ¬ (a = line ∧ b = col)) :
    CodeOk (ps ++ #[rawInt a, rawInt b, c]) codes' line col qual := by
  have hl : (ps ++ #[rawInt a, rawInt b, c]).toList = ps.toList ++ [rawInt a, rawInt b, c] := by simp
  rcases h with h | ⟨c', oc, vs, t, h1, h2, h3, h4⟩
  · refine .inl fun pos e1 e2 => ?_
    rw [hl, among_app _ ht, h pos e1 e2]
    have : (a == (pos.line : Int) && b == (pos.col : Int)) = false := by
      rw [Bool.eq_false_iff]
      intro e
      rw [Bool.and_eq_true, beq_iff_eq, beq_iff_eq] at e
      exact hne ⟨by rw [e.1, e1], by rw [e.2, e2]⟩
    simp only [this, Bool.false_eq_true, if_false]
  · refine .inr ⟨c', oc, vs, t, fun pos e1 e2 => ?_, hc _ h2, h3, h4⟩
    rw [hl, among_app _ ht, h1 pos e1 e2]
theorem CodeOk.put {ps : Array Value} {codes : List (Addr × Obj)} {line col : Nat} {qual : Str} (ht : TriplesOk ps.toList) {c' : Addr} {oc : Obj} {vs : Array Value} {t : Tok} (hn : ∀ pos : Pos, pos.line = line → pos.col = col → codeAmong pos ps.toList = none)
    (hm : (c', oc) ∈ codes) (hd : oc.data = .fields vs) (hv : vs[1]? = some (.str qual t)) :
    CodeOk (ps ++ #[rawInt line, rawInt col, .ref c']) codes line col qual := by
  have hl : (ps ++ #[rawInt line, rawInt col, .ref c']).toList = ps.toList ++ [rawInt line, rawInt col, .ref c'] := by simp
  refine .inr ⟨c', oc, vs, t, fun pos e1 e2 => ?_, hm, hd, hv⟩
  rw [hl, among_app _ ht, hn pos e1 e2]
  simp [e1, e2]
structure Tab (qL qG : Str) (ps : Array Value) (codes : List (Addr × Obj)) : Prop where
  trip : TriplesOk ps.toList
  lam : CodeOk ps codes 63 39 qL
  gen : CodeOk ps codes 62 37 qG
theorem trip_put {ps : Array Value} (h : TriplesOk ps.toList) (a b : Int) (c : Value) : TriplesOk (ps ++ #[rawInt a, rawInt b, c]).toList := by
  rw [show (ps ++ #[rawInt a, rawInt b, c]).toList = ps.toList ++ [rawInt a, rawInt b, c] by simp]
  exact TriplesOk_snoc _ _ _ _ h
section
variable {prog : Program} {w : World} {M : Model} {A : Around} {E : Value → Shared → Prop} {s : Shared} {h₀ : Heap} {L a c P : Addr} {m mg mb : Str → Option Value} {cn : Str} {cs : Scope} {ccd : Value} {cl : List (Str × Addr)} {codes rest : List (Addr × Obj)}
  {p : Program} {loose : List Str} {mean : ExcName → Option Value} {name qual qG qL : Str} {params : Arguments} {body : Expr} {scope : Scope} {ps : Array Value} {pos : Pos} {firstLine : Nat} {clos : List (Str × Addr)}
theorem tab_lam {Q : Value → Shared → Prop} (F : Fr h₀ L s.heap m) (N : News h₀ L s.heap ((P, tabObj ps) :: (codes ++ rest))) (hne : ∀ p ∈ codes ++ rest, p.1 ≠ P) (T : Top p loose mean mg mb h₀) (C : CodeHd h₀ c P) (hcd : ccd = .ref c) (Tb : Tab qual qG ps codes)
    (hp : pos.line = 63 ∧ pos.col = 39) (hcl : closureFor scope (envX cn cs L a ccd cl) = pure clos)
    (h : ∀ f c' oc vs t ctv ps' codes' h' tk, Fr h₀ L h' m → News h₀ L h' ((f, kla_obj name qual params body scope clos ((mg "__name__").getD .none) c' ctv) :: (P, tabObj ps') :: (codes' ++ rest)) → Tab qual qG ps' codes' →
      (c', oc) ∈ codes' → oc.data = .fields vs → vs[1]? = some (.str qual t) → (∀ p ∈ codes' ++ rest, p.1 ≠ P) → (∀ p ∈ (P, tabObj ps) :: (codes ++ rest), p.1 < f) → (∀ p ∈ codes' ++ rest, p.1 < f) → (∀ p ∈ codes', p ∈ codes ∨ (∀ q ∈ rest, q.1 < p.1)) → Q (.ref f) { s with heap := h', toks := tk }) :
    wpAny M A (makeFunction name qual params (.expr body) scope (envX cn cs L a ccd cl) [] [] [] pos firstLine) Q E s := by
  rcases Tb.lam with hn | ⟨c', oc, vs, t, h1, h2, h3, h4⟩
  · refine kla_nest F N T C hcd (.head hne) Tb.trip (hn pos hp.1 hp.2) hcl fun f c' oc vs t ctv h' tk F' N' hd hv hlt hlf => ?_
    refine h f c' oc vs t ctv (ps ++ #[rawInt pos.line, rawInt pos.col, .ref c']) ((c', oc) :: codes) h' tk F' (fun q hq => N' q ?_) ⟨trip_put Tb.trip _ _ _, ?_, ?_⟩ (.head _) hd hv ?_ ?_ ?_ ?_
    · rcases List.mem_cons.mp hq with rfl | hq
      · exact .head _
      · rcases List.mem_cons.mp hq with rfl | hq
        · exact .tail _ (.tail _ (.head _))
        · rcases List.mem_cons.mp hq with rfl | hq
          · exact .tail _ (.head _)
          · exact .tail _ (.tail _ (.tail _ hq))
    · rw [hp.1, hp.2]
      exact CodeOk.put Tb.trip hn (.head _) hd hv
    · exact Tb.gen.more Tb.trip (fun q hq => .tail _ hq) (by rw [hp.1]; intro e; exact absurd e.1 (by decide))
    · intro q hq
      rcases List.mem_cons.mp hq with rfl | hq
      · exact Nat.ne_of_gt (hlt _ (.head _))
      · exact hne q hq
    · exact fun q hq => Nat.lt_trans (hlt q hq) hlf
    · intro q hq
      rcases List.mem_cons.mp hq with rfl | hq
      · exact hlf
      · exact Nat.lt_trans (hlt q (.tail _ hq)) hlf
    · intro q hq
      rcases List.mem_cons.mp hq with rfl | hq
      · exact .inr fun r hr => hlt r (.tail _ (List.mem_append_right _ hr))
      · exact .inl hq
  · refine kla_hit F N T C hcd (.head _) Tb.trip (h1 pos hp.1 hp.2) hcl fun f ctv h' tk F' N' hlt => ?_
    exact h f c' oc vs t ctv ps codes h' tk F' N' Tb h2 h3 h4 hne hlt (fun q hq => hlt q (.tail _ hq)) fun q hq => .inl hq
theorem tab_gen {env : Env} {Q : Value → Shared → Prop} (F : Fr h₀ L s.heap m) (N : News h₀ L s.heap ((P, tabObj ps) :: (codes ++ rest))) (hne : ∀ p ∈ codes ++ rest, p.1 ≠ P) (C : CodeHd h₀ c P) (hcd : env.code = .ref c) (Tb : Tab qL qual ps codes)
    (hp : pos.line = 62 ∧ pos.col = 37)
    (h : ∀ c' ps' codes' h' tk, Fr h₀ L h' m → News h₀ L h' ((P, tabObj ps') :: (codes' ++ rest)) → Tab qL qual ps' codes' → (∀ p ∈ codes' ++ rest, p.1 ≠ P) → (∀ p ∈ codes', p ∈ codes ∨ (∀ q ∈ rest, q.1 < p.1)) → s.heap.objs.size ≤ h'.objs.size → Heap.ExtBut P s.heap h' → Q c' { s with heap := h', toks := tk }) :
    wpAny M A (genexprCode env pos qual scope) Q E s := by
  have hm := N (P, tabObj ps) (.head _)
  have C' := C.keeps F.keep
  rcases Tb.gen with hn | ⟨c', oc, vs, t, h1, h2, h3, h4⟩
  · refine wpAny_genexprCodeX hcd (C'.code hm.1 Tb.trip) (C'.tab hm.1) (hn pos hp.1 hp.2) fun c' h' tk hx hge hlt _ hrec htb _ => ?_
    obtain ⟨c₂, oc, vs, t, e2, hoc, hd, hv⟩ := hrec
    cases e2
    have hLs : L < s.heap.objs.size := F.ns.lt
    have hLc : L < c' := Nat.lt_of_lt_of_le hLs hge
    have old : ∀ b o, h₀.get? b = some o → h'.get? b = some o := fun b o e => hx b o (fun q => by rw [q, hm.2.2] at e; cases e) (F.keep b o e)
    have fresh : ∀ b, L < b → h₀.get? b = none := fun b hb => Heap.get?_none_of_le (Nat.le_trans F.above (Nat.le_of_lt hb))
    have lts : ∀ q ∈ (P, tabObj ps) :: (codes ++ rest), q.1 < c' := fun q hq => Nat.lt_of_lt_of_le (Heap.lt_size (N q hq).1) hge
    refine h (.ref c') (ps ++ #[rawInt pos.line, rawInt pos.col, .ref c']) ((c', oc) :: codes) h' tk ⟨F.ns.extBut hx hm.2.1.symm, old, F.above⟩ (fun q hq => ?_) ⟨trip_put Tb.trip _ _ _, ?_, ?_⟩ ?_ ?_ (Nat.le_trans hge (Nat.le_of_lt hlt)) hx
    · rcases List.mem_cons.mp hq with rfl | hq
      · exact ⟨htb.2, hm.2⟩
      · rcases List.mem_cons.mp hq with rfl | hq
        · exact ⟨hoc, Nat.ne_of_gt hLc, fresh _ hLc⟩
        · have n := N q (.tail _ hq)
          exact ⟨hx _ _ (hne q hq) n.1, n.2⟩
    · exact Tb.lam.more Tb.trip (fun q hq => .tail _ hq) (by rw [hp.1]; intro e; exact absurd e.1 (by decide))
    · rw [hp.1, hp.2]
      exact CodeOk.put Tb.trip hn (.head _) hd hv
    · intro q hq
      rcases List.mem_cons.mp hq with rfl | hq
      · exact Nat.ne_of_gt (lts _ (.head _))
      · exact hne q hq
    · intro q hq
      rcases List.mem_cons.mp hq with rfl | hq
      · exact .inr fun r hr => lts r (.tail _ (List.mem_append_right _ hr))
      · exact .inl hq
  · refine wpAny_genexprCode_hit hcd (C'.code hm.1 Tb.trip) (h1 pos hp.1 hp.2) ?_
    exact h (.ref c') ps codes s.heap s.toks F N Tb hne (fun q hq => .inl hq) (Nat.le_refl _) (Heap.ExtBut.refl _ _)
end
end
section
open PySem PySem.W PyProof.Rows PySem.Spec PySem.Calls
noncomputable abbrev BG := { a : Array GenState // AllBare a }
/-- as Calls, but the generators of the shared state may grow -/
noncomputable abbrev CallsG (w : World) (p : Program) (loose : List Str) (mean : ExcName → Option Value) (mg mb : Str → Option Value) (f : Addr) (news : List (Addr × Obj)) (vs : List Value) (dd : Nat) (Ret : Value → List (Addr × Obj) → Prop) : Prop :=
  ∀ (dp un : Nat) (gd : Option (List Code)) (cn : Str) (cs : Scope) (a : Addr) (ccd : Value) (cl : List (Str × Addr)) (outer : List Env) (A₀ : Around) (base h₀ : Heap) (L : Addr) (m : Str → Option Value) (s : Shared) (Q E : Value → Shared → Prop),
    Below A₀ base outer h₀ → Fr h₀ L s.heap m → (laid.heap_1 w.params).In h₀ → CodeHd base 61 57 → AllBare s.gens → News h₀ L s.heap news → Top p loose mean mg mb h₀ → cs.kind = .function → dp + dd < recursionLimit → un + 8 * dd < cLine →
    (∀ r news' h' tk' (g' : BG), Fr h₀ L h' m → News h₀ L h' news' → Ret r news' → Q r { s with heap := h', toks := tk', gens := g'.1 }) →
    wpAny (model PySem.Challenge.rw_ij0095_01.row.prog w) (ktrTop dp un gd cn cs L a ccd cl outer) (call (.ref f) vs) Q E s
noncomputable def IjAt {σ : Type} (h₀ : Heap) (L : Addr) (s : Shared) (Led : σ → List (Addr × Obj)) (ps : σ → List (Str × Value)) (Inv : σ → Prop) (stored : List Str) (m₀ : Str → Option Value) (s₂ : Shared) : Prop :=
  ∃ (c' : σ) (h' : Heap) (tk : Nat) (g' : BG) (m' : Str → Option Value) (news' : List (Addr × Obj)), s₂ = { s with heap := h', toks := tk, gens := g'.1 } ∧ Fr h₀ L h' m' ∧ News h₀ L h' news' ∧ (∀ p ∈ Led c', p ∈ news') ∧ (∀ p ∈ ps c', m' p.1 = some p.2) ∧ (∀ z, (∀ p ∈ ps c', z ≠ p.1) → stored.contains z = false → m' z = m₀ z) ∧ Inv c'
theorem ij_at {σ : Type} {h₀ : Heap} {L : Addr} {s : Shared} {Led : σ → List (Addr × Obj)} {ps : σ → List (Str × Value)} {Inv : σ → Prop} {stored : List Str} {m₀ m' : Str → Option Value} {h' : Heap} {tk : Nat} {g' : BG} {news' : List (Addr × Obj)} (c' : σ)
    (F : Fr h₀ L h' m') (N : News h₀ L h' news') (hn : ∀ p ∈ Led c', p ∈ news') (hk : ∀ p ∈ ps c', m' p.1 = some p.2) (hr : ∀ z, (∀ p ∈ ps c', z ≠ p.1) → stored.contains z = false → m' z = m₀ z) (hp : Inv c') :
    IjAt h₀ L s Led ps Inv stored m₀ { s with heap := h', toks := tk, gens := g'.1 } := ⟨c', h', tk, g', m', news', rfl, F, N, hn, hk, hr, hp⟩
noncomputable def IjPostG {σ : Type} (h₀ : Heap) (L : Addr) (s : Shared) (Led : σ → List (Addr × Obj)) (ps : σ → List (Str × Value)) (Inv : σ → Prop) (stored : List Str) (m₀ : Str → Option Value) (μ : σ → Nat) (Q : Flow → Shared → Prop) (c : σ) (f : Flow) (s₂ : Shared) : Prop :=
  match f with
  | .ret v => Q (.ret v) s₂
  | .brk => Q .next s₂
  | _ => IjAt h₀ L s Led ps (fun c' => Inv c' ∧ μ c' < μ c) stored m₀ s₂
noncomputable def IjCut {σ : Type} (h₀ : Heap) (L : Addr) (s : Shared) (Led : σ → List (Addr × Obj)) (ps : σ → List (Str × Value)) (Inv : σ → Prop) (stored : List Str) (m₀ : Str → Option Value) (f : Flow) (s₂ : Shared) : Prop :=
  match f with
  | .next => IjAt h₀ L s Led ps Inv stored m₀ s₂
  | _ => False
section
variable {prog : Program} {w : World} {A : Around} {E : Value → Shared → Prop} {Q : Flow → Shared → Prop} {s : Shared} {env : Env} {h₀ : Heap} {L : Addr}
theorem ijg_while {σ : Type} {test : Expr} {body : List Stmt} {pos : Pos} {m₀ : Str → Option Value} {news : List (Addr × Obj)} (Led : σ → List (Addr × Obj)) (ps : σ → List (Str × Value)) (Inv : σ → Prop) (stored : List Str) (μ : σ → Nat) (c₀ : σ)
    (F : Fr h₀ L s.heap m₀) (N : News h₀ L s.heap news) (hn : ∀ p ∈ Led c₀, p ∈ news) (hk : ∀ p ∈ ps c₀, m₀ p.1 = some p.2) (hp : Inv c₀)
    (turn : ∀ (c : σ) (u : Str → Option Value) h tk (g : BG), Inv c → Fr h₀ L h (kstB (fun z => if stored.contains z then u z else m₀ z) (ps c)) → News h₀ L h (Led c) →
      wpAny (model prog w) A (isTrue test env (eval test env)) (fun b s₂ =>
        if b = true then wpAny (model prog w) A (execs body env) (IjPostG h₀ L s Led ps Inv stored m₀ μ Q c) E s₂ else Q .next s₂) E { s with heap := h, toks := tk, gens := g.1 })
    (hE : PassesOwn (model prog w) A env E) (hB : AllBare s.gens) :
    wpAny (model prog w) A (exec (.While test body [] pos) env) Q E s := by
  refine wpAny_While (codeAny_whileLoop (fun n s' => ∃ h₁ tk₁, ∃ g₁ : BG, ∃ m₁, ∃ c : σ, s' = { s with heap := h₁, toks := tk₁, gens := g₁.1 } ∧ Fr h₀ L h₁ m₁ ∧ News h₀ L h₁ (Led c) ∧ μ c = n ∧ (∀ p ∈ ps c, m₁ p.1 = some p.2) ∧ (∀ z, (∀ p ∈ ps c, z ≠ p.1) → stored.contains z = false → m₁ z = m₀ z) ∧ Inv c) ?_ (μ c₀) ⟨s.heap, s.toks, ⟨s.gens, hB⟩, m₀, c₀, rfl, F, fun p hp => N p (hn p hp), rfl, hk, fun _ _ _ => rfl, hp⟩)
  rintro n s' ⟨h₁, tk₁, g₁, m₁, c, rfl, F₁, N₁, hsz, h1, h2, hp'⟩
  refine wpAny_mono (turn c m₁ h₁ tk₁ g₁ hp' (ksw_fr h1 h2 F₁) N₁) (fun b s₂ h₂ => ?_) hE
  cases b with
  | false =>
    simp only [Bool.false_eq_true, if_false] at h₂ ⊢
    exact wpAny_execs_nil h₂
  | true =>
    simp only [if_true] at h₂ ⊢
    refine wpAny_mono h₂ (fun f s₃ h₃ => ?_) hE
    cases f with
    | next =>
      obtain ⟨c', h', tk', g', m', news', rfl, F', N', hn, hk9, hr9, hp9, hm9⟩ := h₃
      exact ⟨μ c', by omega, h', tk', g', m', c', rfl, F', fun p hp => N' p (hn p hp), rfl, hk9, hr9, hp9⟩
    | cont =>
      obtain ⟨c', h', tk', g', m', news', rfl, F', N', hn, hk9, hr9, hp9, hm9⟩ := h₃
      exact ⟨μ c', by omega, h', tk', g', m', c', rfl, F', fun p hp => N' p (hn p hp), rfl, hk9, hr9, hp9⟩
    | brk => exact h₃
    | ret v => exact h₃
theorem ijg_cut {σ : Type} {st : Stmt} {m₀ : Str → Option Value} (Led : σ → List (Addr × Obj)) (ps : σ → List (Str × Value)) (Inv : σ → Prop) (stored : List Str)
    (_F : Fr h₀ L s.heap m₀) (walk : wpAny (model prog w) A (exec st env) (IjCut h₀ L s Led ps Inv stored m₀) E s)
    (cont : ∀ (c : σ) (u : Str → Option Value) h tk (g : BG), Inv c → Fr h₀ L h (kstB (fun z => if stored.contains z then u z else m₀ z) (ps c)) → News h₀ L h (Led c) → Q .next { s with heap := h, toks := tk, gens := g.1 }) :
    wpAny (model prog w) A (exec st env) Q E s := by
  refine wpAny_mono walk (fun f s₂ h => ?_) fun _ _ x => x
  cases f with
  | next =>
    obtain ⟨c', h', tk', g', m', news', rfl, F', N', hn, hk9, hr9, hp9⟩ := h
    exact cont c' m' h' tk' g' hp9 (ksw_fr hk9 hr9 F') fun p hp => N' p (hn p hp)
  | cont => exact h.elim
  | brk => exact h.elim
  | ret v => exact h.elim
end
theorem callsG_use {w : World} {p : Program} {loose : List Str} {mean : ExcName → Option Value} {mg mb : Str → Option Value} {f : Addr} {news : List (Addr × Obj)} {vs : List Value} {dd : Nat} {Ret : Value → List (Addr × Obj) → Prop}
    {dp un : Nat} {gd : Option (List Code)} {cn : Str} {cs : Scope} {a : Addr} {ccd : Value} {cl : List (Str × Addr)} {outer : List Env} {A₀ : Around} {base h₀ : Heap} {L : Addr} {m : Str → Option Value} {s : Shared} {Q E : Value → Shared → Prop}
    (C : CallsG w p loose mean mg mb f news vs dd Ret) (B : Below A₀ base outer h₀) (F : Fr h₀ L s.heap m) (X : (laid.heap_1 w.params).In h₀) (K : CodeHd base 61 57) (N : News h₀ L s.heap news) (T : Top p loose mean mg mb h₀) (hk : cs.kind = .function) (hd : dp + dd < recursionLimit) (hu : un + 8 * dd < cLine)
    (hB : AllBare s.gens) (ret : ∀ r news' h' tk' (g' : BG), Fr h₀ L h' m → News h₀ L h' news' → Ret r news' → Q r { s with heap := h', toks := tk', gens := g'.1 }) :
    wpAny (model PySem.Challenge.rw_ij0095_01.row.prog w) (ktrTop dp un gd cn cs L a ccd cl outer) (call (.ref f) vs) Q E s := C _ _ _ _ _ _ _ _ _ _ _ _ _ _ _ _ _ B F X K hB N T hk hd hu ret
end
section
open PySem PySem.W PyProof.Rows PySem.Spec PySem.Calls
noncomputable def GenIs (prog : Program) (w : World) (A : Around) (h₀ : Heap) (L a : Addr) (y : Str) (news : List (Addr × Obj)) (s : Shared) : Prop :=
  ∃ fp wr g St n F, WalksS prog w A.in4 a fp wr (GenOnlyQ g) n F St ∧ n = 1 ∧ (∀ j v, F j v → ∃ t, v = .str y t) ∧ St 0 s ∧ (∀ i s', St i s' → s'.TypeIs (.ref a) "generator") ∧ a ∈ fp ∧ (∀ b ∈ fp, b < s.heap.objs.size) ∧ (∀ b ∈ wr, b ≠ L ∧ h₀.get? b = none ∧ ∀ p ∈ news, p.1 ≠ b)
section
variable {prog : Program} {w : World} {A : Around} {E : Value → Shared → Prop} {s : Shared} {h₀ : Heap} {L a c P : Addr} {m mg mb : Str → Option Value} {cn : Str} {cs : Scope} {ccd : Value} {cl : List (Str × Addr)} {news codes rest : List (Addr × Obj)}
  {p : Program} {loose : List Str} {mean : ExcName → Option Value} {qG qL : Str} {scope : Scope} {ps : Array Value} {pos : Pos} {clos : List (Str × Addr)}
theorem gen_join {g : Addr} {y x : Str} {t : Tok} {Q : Value → Shared → Prop} (F : Fr h₀ L s.heap m) (N : News h₀ L s.heap news) (G : GenIs prog w A h₀ L g y news s) (hy : y.length + x.length ≤ 100000)
    (h : ∀ h' (g' : BG) tk t', Fr h₀ L h' m → News h₀ L h' news → Q (.str y t') { s with heap := h', gens := g'.1, toks := tk }) (hB : AllBare s.gens) :
    wpAny (model prog w) A (call (.builtin "str.join") [.str x t, .ref g]) Q E s := by
  obtain ⟨fp, wr, gi, St, n, Fv, W, rfl, hFv, hst, hT, ha, hfp, hwr⟩ := G
  have W := W.in4_2
  refine SC.joinGen W hT hst hfp ha (fun j v hv => let ⟨u, e⟩ := hFv j v hv; ⟨_, u, e⟩) (fun s' lt hm hacc => ?_) (by size_fits)
  have hl : lt.map (·.1) = [y] := by
    have hsz : lt.length = 1 := by simpa [strValues] using hacc.1
    match lt, hsz with
    | [q], _ =>
      obtain ⟨u, hv⟩ := hFv _ _ (hacc.2 0 (.str q.1 q.2) (by simp [strValues]))
      injection hv with h1 _
      simp [h1]
  rw [hl]
  refine ⟨?_, fun t' k => ?_⟩
  · unfold JoinOk
    simp only [List.foldl_toArray', List.foldl_cons, List.foldl_nil, Bool.not_eq_true']
    unfold Builtin.Str.tooLong
    rw [decide_eq_false_iff_not, sizeLine_eq]
    omega
  · have f1 : Fr h₀ L s'.heap m := ⟨F.ns.at fun o e => hm.heap L o (fun hb => (hwr L hb).1 rfl) e, fun b o e => hm.heap b o (fun hb => by rw [(hwr b hb).2.1] at e; cases e) (F.keep b o e), F.above⟩
    have n1 : News h₀ L s'.heap news := fun q hq => ⟨hm.heap _ _ (fun hb => (hwr _ hb).2.2 q hq rfl) (N q hq).1, (N q hq).2⟩
    have hB' := hm.gens.bare hB
    have e1 := hm.drawn
    have e2 := hm.os
    obtain ⟨h5, g5, d5, t5, o5⟩ := s'
    dsimp only at e1 e2 f1 n1 hB' ⊢
    subst e1 e2
    exact h h5 ⟨g5, hB'⟩ k t' f1 n1
theorem gen_make {elt iter : Expr} {x : Str} {px : Pos} {D : Addr} {xs y : Str} {t0 : Tok} {n : Nat} {Q : Value → Shared → Prop} (F : Fr h₀ L s.heap m) (N : News h₀ L s.heap ((P, tabObj ps) :: (codes ++ rest))) (hne : ∀ p ∈ codes ++ rest, p.1 ≠ P) (T : Top p loose mean mg mb h₀) (C : CodeHd h₀ c P) (hcd : ccd = .ref c) (Tb : Tab qL qG ps codes)
    (hq : (envX cn cs L a ccd cl).qual ++ "<genexpr>" = qG) (hp : pos.line = 62 ∧ pos.col = 37) (hD : (D, listOf #[.str xs t0] n) ∈ codes ++ rest)
    (hh : A.handled = none) (hco : scope.isCoroutine = false) (hclos : closureFor scope (envX cn cs L a ccd cl) = pure clos) (hcell : ∀ y ∈ scope.names, y.2 ≠ .cell) (h0 : scope.names.lookup (".0" : Str) = some NameKind.local)
    (hx : scope.names.lookup x = some .local) (hkind : scope.kind = .function) (hroom : A.depth < recursionLimit)
    (hiter : wpAny (model prog w) A (eval iter (envX cn cs L a ccd cl)) (fun xv s₁ => xv = .ref D ∧ s₁ = s) E s)
    (helt : ∀ (A' : Around) E' (s₂ : Shared) m₂ C' code bi, A'.handled = none → s₂.heap.Ns C' m₂ → m₂ x = some (.str xs t0) →
      wpAny (model prog w) A' (eval elt (genEnv scope clos C' code bi (envX cn cs L a ccd cl))) (fun v s₃ => (∃ t, v = .str y t) ∧ Keeps s₂ s₃) E' s₂)
    (h : ∀ a' h' tk (g' : BG) ps' codes', Fr h₀ L h' m → News h₀ L h' ((P, tabObj ps') :: (codes' ++ rest)) → Tab qL qG ps' codes' → (∀ p ∈ codes' ++ rest, p.1 ≠ P) → (∀ p ∈ codes', p ∈ codes ∨ (∀ q ∈ rest, q.1 < p.1)) →
      GenIs prog w A h₀ L a' y ((P, tabObj ps') :: (codes' ++ rest)) { s with heap := h', toks := tk, gens := g'.1 } → Q (.ref a') { s with heap := h', toks := tk, gens := g'.1 })
    (hs : ∀ x, genFold iter (envX cn cs L a ccd cl) x = pure x) (hB : AllBare s.gens) :
    wpAny (model prog w) A (eval (.GeneratorExp elt [⟨.Name x px, iter, [], 0⟩] scope pos) (envX cn cs L a ccd cl)) Q E s := by
  have hDm := N _ (.tail _ hD)
  refine wpAny_GeneratorExp_walksQ hh hco hclos hcell h0 hx hkind hroom (wpAny_mono hiter (fun xv s₁ hxv => ?_) fun _ _ e => e) hs
  obtain ⟨rfl, rfl⟩ := hxv
  have hl : s₁.heap.IsList D #[.str xs t0] := ⟨_, hDm.1, rfl, _, rfl⟩
  have hDlt : D < s₁.heap.objs.size := Heap.lt_size hDm.1
  have hLlt : L < s₁.heap.objs.size := F.ns.lt
  refine wpAny_pyIter_list hl ?_
  have F1 := F.push { cls := .type "list_iterator", data := .fields #[.ref D, .int 0 0] }
  have N1 := News.push F N { cls := .type "list_iterator", data := .fields #[.ref D, .int 0 0] }
  have lt0 : ∀ q ∈ (P, tabObj ps) :: (codes ++ rest), q.1 < s₁.heap.objs.size := fun q hq => Heap.lt_size (N q hq).1
  have nolim := T.nolimit.keeps F1.keep
  refine ⟨nolim, ?_⟩
  rw [hq]
  have N1' : News h₀ L (s₁.heap.push { cls := .type "list_iterator", data := .fields #[.ref D, .int 0 0] }) ((P, tabObj ps) :: (codes ++ ((s₁.heap.objs.size, { cls := .type "list_iterator", data := .fields #[.ref D, .int 0 0] }) :: rest))) := by
    intro q hq
    refine N1 q ?_
    rcases List.mem_cons.mp hq with rfl | hq
    · exact .tail _ (.head _)
    · rcases List.mem_append.mp hq with hq | hq
      · exact .tail _ (.tail _ (List.mem_append_left _ hq))
      · rcases List.mem_cons.mp hq with rfl | hq
        · exact .head _
        · exact .tail _ (.tail _ (List.mem_append_right _ hq))
  have hne1 : ∀ p ∈ codes ++ ((s₁.heap.objs.size, ({ cls := .type "list_iterator", data := .fields #[.ref D, .int 0 0] } : Obj)) :: rest), p.1 ≠ P := by
    intro q hq
    rcases List.mem_append.mp hq with hq | hq
    · exact hne q (List.mem_append_left _ hq)
    · rcases List.mem_cons.mp hq with rfl | hq
      · exact Nat.ne_of_gt (lt0 _ (.head _))
      · exact hne q (List.mem_append_right _ hq)
  refine tab_gen F1 N1' hne1 C hcd Tb hp fun code ps' codes' h3 tk3 F3 N3 Tb3 hne3 hold hsz3 hx3 => ?_
  obtain ⟨bm, ob, b1, b2, b3, b4, b5, b6⟩ := T.bmain
  refine wpAny_builtinsFor (T.g.keeps F3.keep) b1 b2 (F3.keep _ _ b3) b4 b5 b6 ?_
  have hI := N3 _ (.tail _ (List.mem_append_right _ (.head _)))
  have hD3 : h3.get? D = some (listOf #[.str xs t0] n) := by
    rcases List.mem_append.mp hD with hD | hD
    · refine hx3 _ _ (hne _ (List.mem_append_left _ hD)) (Heap.get?_push_of_some _ hDm.1)
    · exact (N3 _ (.tail _ (List.mem_append_right _ (.tail _ hD)))).1
  have nolim3 := T.nolimit.keeps F3.keep
  have lt3 : ∀ q ∈ (P, tabObj ps') :: (codes' ++ ((s₁.heap.objs.size, ({ cls := .type "list_iterator", data := .fields #[.ref D, .int 0 0] } : Obj)) :: rest)), q.1 < h3.objs.size := fun q hq => Heap.lt_size (N3 q hq).1
  have hclt : cStatics < s₁.heap.objs.size := let ⟨_, hn, _⟩ := T.nolimit.keeps F.keep; hn.lt
  refine ⟨s₁.heap.objs.size, [s₁.heap.objs.size, D], [s₁.heap.objs.size], 1, _, _, fun _ => true, fun _ v => ∃ t, v = .str y t, rfl, (fun A' hA => Walks.list hA _ _ (Nat.ne_of_lt hDlt) #[.str xs t0]), ⟨⟨_, hI.1, rfl, rfl⟩, ⟨_, hD3, rfl, _, rfl⟩⟩, ?_, nolim3, ?_, ?_, ?_⟩
  · intro b hb
    rcases List.mem_cons.mp hb with rfl | hb
    · exact Heap.lt_size hI.1
    · rw [List.mem_singleton.mp hb]; exact Heap.lt_size hD3
  · intro hb
    rw [List.mem_singleton.mp hb] at hclt
    exact Nat.lt_irrefl _ hclt
  · refine fun href hhref => ⟨fun A' E' i v s₂ m₂ hA hP hns hm hk => wpAny_pure ⟨rfl, _, _, rfl, fun _ _ e => e⟩, fun A' E' i v s₂ m₂ hA hP _ hns hm hk => ?_⟩
    have hv : v = .str xs t0 := by
      have hlt : i < 1 := (Array.getElem?_eq_some_iff.mp hP).1
      have e0 : i = 0 := by omega
      subst e0
      simpa using hP.symm
    subst hv
    exact helt A' E' s₂ m₂ _ _ _ hA hns hm
  · intro a' h5 tk gs hgb hag hsz5 hk5 W hat
    have F5 := F3.keeps hk5
    have N5 := N3.grown hk5
    have N5' : News h₀ L h5 ((P, tabObj ps') :: (codes' ++ rest)) := fun q hq => N5 q (by
      rcases List.mem_cons.mp hq with rfl | hq
      · exact .head _
      · rcases List.mem_append.mp hq with hq | hq
        · exact .tail _ (List.mem_append_left _ hq)
        · exact .tail _ (List.mem_append_right _ (.tail _ hq)))
    have hne5 : ∀ p ∈ codes' ++ rest, p.1 ≠ P := fun q hq => hne3 q (by
        rcases List.mem_append.mp hq with hq | hq
        · exact List.mem_append_left _ hq
        · exact List.mem_append_right _ (.tail _ hq))
    have hold5 : ∀ p ∈ codes', p ∈ codes ∨ (∀ q ∈ rest, q.1 < p.1) := fun q hq => (hold q hq).imp_right fun k r hr => k r (.tail _ hr)
    have fresh : ∀ b, L < b → h₀.get? b = none := fun b hb => Heap.get?_none_of_le (Nat.le_trans F.above (Nat.le_of_lt hb))
    refine h a' h5 tk ⟨_, hB.push hgb⟩ ps' codes' F5 N5' Tb3 hne5 hold5 ⟨_, _, _, _, _, _, W, by decide, (fun j v hv => let ⟨_, _, e⟩ := hv; e), hat, (fun i s' st => st.1.typeIs), List.mem_cons_self, ?_, ?_⟩
    · intro b hb
      show b < h5.objs.size
      rw [hsz5]
      rcases List.mem_cons.mp hb with rfl | hb
      · exact Nat.lt_succ_self _
      · rcases List.mem_cons.mp hb with rfl | hb
        · exact Nat.lt_succ_of_lt hag
        · exact Nat.lt_succ_of_lt (Nat.lt_trans (List.mem_range.mp hb) hag)
    · intro b hb
      rcases List.mem_cons.mp hb with rfl | hb
      · have h7 : L < h3.objs.size := Nat.lt_trans hLlt (Heap.lt_size hI.1)
        refine ⟨Nat.ne_of_gt h7, fresh _ h7, fun q hq => Nat.ne_of_lt (lt3 q ?_)⟩
        rcases List.mem_cons.mp hq with rfl | hq
        · exact .head _
        · rcases List.mem_append.mp hq with hq | hq
          · exact .tail _ (List.mem_append_left _ hq)
          · exact .tail _ (List.mem_append_right _ (.tail _ hq))
      · rw [List.mem_singleton.mp hb]
        refine ⟨Nat.ne_of_gt hLlt, fresh _ hLlt, fun q hq => ?_⟩
        rcases List.mem_cons.mp hq with rfl | hq
        · exact Nat.ne_of_lt (lt0 (P, tabObj ps) (.head _))
        · rcases List.mem_append.mp hq with hq | hq
          · rcases hold q hq with h8 | h8
            · exact Nat.ne_of_lt (lt0 _ (.tail _ (List.mem_append_left _ h8)))
            · exact Nat.ne_of_gt (h8 _ (.head _))
          · exact Nat.ne_of_lt (lt0 _ (.tail _ (List.mem_append_right _ hq)))
end
end
section
open PySem PySem.W PyProof.Rows PySem.Spec PySem.Calls
open Builtin.Str
theorem occ_no {x y : Str} {lo hi : Nat} (h : ∀ i, lo ≤ i → i + y.length ≤ hi → subAt x y i = false) : occurrences x y lo hi 1 = [] := by
  rw [StrLaws.occ_eq]
  have := (StrLaws.occ_none x y hi (List.range' lo (hi + 1 - lo)) lo (fun i hi' => by rw [List.mem_range'_1] at hi'; exact hi'.1)).mpr (fun i hi' hc => by
    rw [List.mem_range'_1] at hi'
    rw [h i hi'.1 hc.1] at hc
    exact Bool.false_ne_true hc.2)
  rw [this]
theorem occ_yes {x y : Str} {lo hi d : Nat} (hd : lo ≤ d) (hh : d + y.length ≤ hi) (hs : subAt x y d = true) (hn : ∀ i, lo ≤ i → i < d → subAt x y i = false) : ∃ tl, occurrences x y lo hi 1 = d :: tl := by
  rw [StrLaws.occ_eq]
  rcases StrLaws.occ_first x y hi 1 (Nat.le_refl _) (List.range' lo (hi + 1 - lo)) lo (fun i hi' => by rw [List.mem_range'_1] at hi'; exact hi'.1) with ⟨_, h2⟩ | ⟨pre, a, post, h1, h2, h3, h4⟩
  · exact absurd ⟨hh, hs⟩ (h2 d (by rw [List.mem_range'_1]; omega))
  · have ha : a ∈ List.range' lo (hi + 1 - lo) := by rw [h1]; exact List.mem_append_right _ (.head _)
    rw [List.mem_range'_1] at ha
    have had : a = d := by
      rcases Nat.lt_trichotomy a d with h5 | h5 | h5
      · have h6 := h3.2
        rw [hn a ha.1 h5] at h6
        exact absurd h6 Bool.false_ne_true
      · exact h5
      · exfalso
        have hdm : d ∈ List.range' lo (hi + 1 - lo) := by rw [List.mem_range'_1]; omega
        rw [h1] at hdm
        rcases List.mem_append.mp hdm with hm | hm
        · exact h4 d hm ⟨hh, hs⟩
        · have hp := List.pairwise_lt_range' (s := lo) (n := hi + 1 - lo) (step := 1)
          rw [h1, List.pairwise_append] at hp
          rcases List.mem_cons.mp hm with rfl | hm
          · exact Nat.lt_irrefl _ h5
          · have := (List.pairwise_cons.mp hp.2.1).1 d hm
            omega
    subst had
    cases hr : (forIn (List.range' lo (hi + 1 - lo)) ((#[] : Array Nat), lo) (StrLaws.occBody x y hi 1)).run.fst.toList with
    | nil =>
      rw [← Array.getElem?_toList, hr] at h2
      cases h2
    | cons b tl =>
      rw [← Array.getElem?_toList, hr] at h2
      injection h2 with h2
      exact ⟨tl, by rw [h2]⟩
theorem sub_dash {L : List Nat} {i c : Nat} (h : L[i]? = some c) : subAt ⟨L.toArray⟩ (Str.ofString "-") i = (c == 45) := by
  rw [o_dash]
  unfold subAt
  show ((L.toArray.extract i (i + 1)) == #[45]) = _
  have hl : i < L.length := (List.getElem?_eq_some_iff.mp h).1
  have e : L.toArray.extract i (i + 1) = #[c] := by
    apply Array.ext'
    simp only [List.extract_toArray, List.extract_eq_drop_take, Nat.add_sub_cancel_left]
    rw [List.drop_eq_getElem_cons hl]
    have := (List.getElem?_eq_some_iff.mp h).2
    simp [this]
  rw [e]
  by_cases hc : c = 45
  · subst hc; rfl
  · rw [show (c == 45) = false by simpa using hc]
    rw [Bool.eq_false_iff]
    intro e
    have := eq_of_beq e
    injection this with this
    injection this with this
    exact hc this
section
variable {prog : Program} {w : World} {A : Around} {E : Value → Shared → Prop} {s : Shared} {x y : Str} {t u v z : Tok} {i j : Int} {Q : Value → Shared → Prop}
theorem ij_find4 (h0 : 0 ≤ i) (h1 : 0 ≤ j) (hj : j ≤ x.length) {r : Int} (hr : (match occurrences x y i.toNat j.toNat 1 with | k :: _ => (k : Int) | [] => -1) = r) (h : Q (.int r s.toks) { s with toks := s.toks + 1 }) :
    wpAny (model prog w) A (call (.builtin "str.find") [.str x t, .str y u, .int i v, .int j z]) Q E s := by
  refine call_gives F.slot_str_find (typeIs_str _ _ _) F.entry_str_find (F.args_str_find_4 _ _ _ _) (m := .int r) ?_ h
  have e1 : (max 0 (if i < 0 then i + x.length else i)).toNat = i.toNat := by rw [if_neg (by omega)]; omega
  have e2 : min (max 0 (if j < 0 then j + x.length else j)).toNat x.length = j.toNat := by rw [if_neg (by omega)]; omega
  show Gives (match occurrences x y (max 0 (if i < 0 then i + x.length else i)).toNat (min (max 0 (if j < 0 then j + x.length else j)).toNat x.length) 1 with | k :: _ => retInt k | [] => (do rule "str.find.not-found"; retInt (-1))) _
  rw [e1, e2, ← hr]
  cases occurrences x y i.toNat j.toNat 1 with
  | nil => exact .rule (.of_eq rfl)
  | cons k _ => exact .of_eq rfl
end
end
section
open PySem PySem.W PyProof.Rows PySem.Spec PySem.Calls
open Builtin.Str in
theorem ij_replace0 {prog : Program} {w : World} {A : Around} {E : Value → Shared → Prop} {s : Shared} {x y z : Str} {t u v : Tok} {Q : Value → Shared → Prop} (hc : (occurrences x y 0 x.length (x.length + 1)).isEmpty = true) (h : Q (.str x t) s) :
    wpAny (model prog w) A (call (.builtin "str.replace") [.str x t, .str y u, .str z v]) Q E s := by
  refine call_gives F.slot_str_replace (typeIs_str _ _ _) F.entry_str_replace (F.args_str_replace_3 _ _ _)
    (gives_str_replace x y z t u v fun e => by rw [hc] at e; cases e) ?_
  rw [hc]
  simp only [Bool.true_or, if_true]
  exact h
theorem dn_dash : (Str.ofString "-" == Str.ofString "\\-") = false := by decide +kernel
end
section
open PySem PySem.W PyProof.Rows PySem.Spec PySem.Calls
theorem ob_mro : mroOf (.type "object") = pure [.type "object"] := by rw [mroOf_type]; kernel_rfl
theorem ob_new : typeLookup (.type "object") "__new__" = pure (some (.builtin "object.__new__")) := by rw [typeLookup_type, builtinLookup_eq_fast]; kernel_rfl
theorem ob_slot : Slot "object" "__init__" "object.__init__" :=
  .of (owner := "object") (n := "__init__") (by rw [typeLookup_type, builtinLookup_eq_fast]; kernel_rfl) (by decide +kernel) (by decide +kernel) (by decide +kernel)
    (by first | exact .inl (by decide +kernel) | exact .inr (by decide +kernel)) (by rw [isSubtype_type]; kernel_rfl)
theorem ob_called : TypeCalled "object" "object.__new__" "object.__init__" :=
  ⟨by decide +kernel, by decide +kernel, ⟨_, _, ob_mro⟩, madeBy_type ob_mro ob_new (by decide +kernel), by decide +kernel, by rw [isSubtype_type]; kernel_rfl, ob_slot⟩
theorem ob_call0 : checkTypeCall "object" ⟨[], []⟩ = pure () := by kernel_rfl
theorem ob_new0 : checkBuiltinCall "object.__new__" ⟨[.type "object"], []⟩ = pure () := by kernel_rfl
theorem ob_args (o : Value) : argsOk "object.__init__" ⟨[o], []⟩ := by unfold argsOk; kernel_rfl
theorem ob_here : Bind.madeHere "object.__new__" (.type "object") = pure () := by
  unfold Bind.madeHere
  have e : Bind.staticBase (.type "object") = pure (.type "object") := by first | rfl | kernel_rfl
  rw [e]
  simp only [pure_bind, ob_called.made]
  first | rfl | kernel_rfl | (simp; rfl)
theorem ob_init (self : Value) : Meets (Builtin.«object.__init__» ⟨[self], []⟩) (fun _ R s => R (.ok (.ret .none)) s) :=
  Meets.of_wp fun _ _ _ _ _ h => wpAny_pure ⟨_, rfl, h⟩
theorem ob_make : Meets (Builtin.«object.__new__» ⟨[.type "object"], []⟩) (fun _ R s => R (.ok (.ret (.ref s.heap.objs.size))) { s with heap := s.heap.push { cls := .type "object" } }) :=
  Meets.of_wp fun _ _ _ _ s h => by
    have hmh := ob_here
    have href : ((Manifest.find? "object").elim false fun x => x.mro.any fun t => (Manifest.find? t).elim false (·.noNew)) = false := by decide +kernel
    have hdict : typeHasDict (.type "object") = false := by first | rfl | kernel_rfl | decide +kernel
    have hdel : diesByItsTypesDel "object" = false := by first | rfl | kernel_rfl | decide +kernel
    unfold Builtin.«object.__new__»
    wp_walk
    exact ⟨_, rfl, h⟩
section
variable {prog : Program} {w : World} {A : Around} {E : Value → Shared → Prop} {s : Shared} {h₀ : Heap} {L : Addr} {m : Str → Option Value} {news : List (Addr × Obj)} {Q : Value → Shared → Prop}
theorem ob_call (h : Q (.ref s.heap.objs.size) { s with heap := s.heap.push { cls := .type "object" } }) : wpAny (model prog w) A (call (.type "object") []) Q E s :=
  callType_meets ob_called ob_call0 ob_new0 F.entry_object_new F.entry_object_init ob_make (Q₁ := fun obj s₁ => s₁.TypeIs obj "object" ∧ Q obj s₁)
    ⟨⟨_, Heap.get?_push_size _ rfl, rfl⟩, h⟩ fun obj _ hq => ⟨hq.1, ob_args obj, _, ob_init obj, rfl, hq.2⟩
theorem ij_obj (F : Fr h₀ L s.heap m) (N : News h₀ L s.heap news) (h : ∀ x h', Fr h₀ L h' m → News h₀ L h' ((x, ({ cls := .type "object" } : Obj)) :: news) → (∀ p ∈ news, p.1 < x) → Q (.ref x) { s with heap := h' }) :
    wpAny (model prog w) A (call (.type "object") []) Q E s :=
  ob_call (h _ _ (F.push _) (News.push F N _) fun p hp => Heap.lt_size (N p hp).1)
end
end
section
open PySem PySem.W PyProof.Rows PySem.Spec PySem.Calls
/-- the law's end, its generators not all gone but bare -/
noncomputable def PostG (cw : ClaimW) (cl : Str → Option Addr) (mean : ExcName → Option Value) (args : List WData) (s₁ : Shared) (tabs : List (Addr × Addr)) (r : Result) (s' : Shared) : Prop :=
  (GoodW cw cl mean args { s₁ with heap := ghostOf s₁.heap tabs } r { s' with gens := #[] } ∧ GrownAll tabs s'.heap) ∧ AllBare s'.gens
theorem postG {M : Model} {A : Around} {cd : Code} {s s₁ : Shared} {cw : ClaimW} {cl : Str → Option Addr} {mean : ExcName → Option Value} {args : List WData} {tabs : List (Addr × Addr)} (hT : TabsAt tabs s₁.heap) (hr : ∀ a x, cw.raises a x = false)
    (h : codeAny M A cd (PostG cw cl mean args s₁ tabs) s) : codeAny M A cd (GoodWG cw cl mean args s₁) s :=
  codeAny_mono h fun r s' ⟨⟨⟨hc, hk, hos, _⟩, hgr⟩, hb⟩ => by
    have keep : ∀ b o, b ∉ tabs.map (·.2) → s₁.heap.get? b = some o → s'.heap.get? b = some o := fun b o hb e => hk b o (ghost_ne e hb)
    have grown : ∀ b o, b ∈ tabs.map (·.2) → s₁.heap.get? b = some o → isCodeTable s₁.heap b ∧ o = tabObj #[] ∧ ∃ ps, s'.heap.get? b = some (tabObj ps) := fun b o hb e => by
      obtain ⟨q, hq, rfl⟩ := List.mem_map.mp hb
      have e2 := (hT q hq).2
      rw [e] at e2
      exact ⟨((hT q hq).1.tab (hT q hq).2).isCodeTable, Option.some.inj e2, hgr.get q hq⟩
    refine ⟨?_, ⟨fun b o e => ?_, fun b o e => ?_⟩, hos, hb⟩
    · rcases hc with ⟨v, d, as, r1, r2, r3, r4, r5⟩ | ⟨e, ob, x, _, _, _, r4, _⟩
      · refine .inl ⟨v, d, as, r1, r2, r3, r4, fun q => ⟨(r5 q).1, fun a ha => ?_⟩⟩
        cases q1 : s₁.heap.get? a with
        | none => rfl
        | some o =>
          by_cases hb : a ∈ tabs.map (·.2)
          · obtain ⟨_, _, ps, hP⟩ := grown a o hb q1
            exact absurd ha (readsW_apart hP rfl r3)
          · have e3 := (r5 q).2 a ha
            rw [show (ghostOf s₁.heap tabs).get? a = some o from ghost_ne q1 hb] at e3
            cases e3
      · rw [hr] at r4; cases r4
    · by_cases hb : b ∈ tabs.map (·.2)
      · obtain ⟨ht, rfl, ps, hP⟩ := grown b o hb e
        exact .inr (.inl ⟨ht, rfl, #[], ps, rfl, by rw [Array.empty_append]; exact hP⟩)
      · exact .inl (keep b o hb e)
    · by_cases hb : b ∈ tabs.map (·.2)
      · obtain ⟨_, _, ps, hP⟩ := grown b o hb e
        exact ⟨_, hP⟩
      · exact ⟨o, keep b o hb e⟩
end
section
open PySem PySem.W PyProof.Rows PySem.Spec PySem.Calls PyProof.Rows.LCg
section
variable {prog : Program} {w : World} {A : Around} {E : Value → Shared → Prop} {s : Shared} {h₀ : Heap} {L : Addr} {m : Str → Option Value} {env : Env}
/-- the made list pairs each place of the source with what the element gives -/
noncomputable def EnIs (P : Nat → Value → Value → Prop) (its ys : List Value) : Prop := ys.length = its.length ∧ ∀ i v, its[i]? = some v → ∃ y, ys[i]? = some y ∧ P i v y
noncomputable def EnElt (prog : Program) (w : World) (A : Around) (h₀ : Heap) (L : Addr) (m : Str → Option Value) (env : Env) (elt : PySem.Expr) (a b : Str) (scope : Scope) (cl : List (Str × Addr)) (s₂ : Shared) (P : Nat → Value → Value → Prop) (its : List Value) (news : List (Addr × Obj)) : Prop :=
  ∀ (i : Nat) (v : Value) (t : Tok) (C : Addr) (oC : Obj) (m₂ : Str → Option Value) (h : Heap) (tk : Nat) (E' : Value → Shared → Prop), its[i]? = some v → NsObj oC m₂ → m₂ a = some (.int (i : Int) t) → m₂ b = some v → Fr h₀ L h m → News h₀ L h ((C, oC) :: news) →
    wpAny (model prog w) A (eval elt (compEnvC scope cl C env)) (fun y s' => P i v y ∧ Keeps { s₂ with heap := h, toks := tk } s') E' { s₂ with heap := h, toks := tk }
theorem en_block {elt iter : PySem.Expr} {a b : Str} {pa pb tp : Pos} {kk : Nat} {scope : Scope} {cl : List (Str × Addr)} {pos : Pos} {s₂ : Shared} {e it l : Addr} {its : List Value} {nl : Nat} {news : List (Addr × Obj)} {P : Nat → Value → Value → Prop}
    {RR : Value → Addr → Result → Shared → Prop}
    (hh : A.handled = none) (hei : e ≠ it) (hsz : its.length ≤ sizeLine) (hm : (l, ({ cls := .type "list", data := .seq its.toArray nl } : Obj)) ∈ news) (he : IsEnum s₂.heap e it 0 .none) (hit : s₂.heap.IsListIter it l 0)
    (hcell : ∀ y ∈ scope.names, y.2 ≠ .cell) (hkind : scope.kind = .function) (hxa : scope.names.lookup a = some .local) (hxb : scope.names.lookup b = some .local) (hab : ¬ a = b)
    (F : Fr h₀ L s₂.heap m) (N : News h₀ L s₂.heap news) (hLe : L ≠ e) (hLi : L ≠ it) (he₀ : h₀.get? e = none) (hi₀ : h₀.get? it = none) (off : ∀ p ∈ news, p.1 ≠ e ∧ p.1 ≠ it)
    (R : EnElt prog w A h₀ L m env elt a b scope cl s₂ P its news)
    (hRR : ∀ D C h tk m' ys, Fr h₀ L h m → News h₀ L h ((D, lst ys) :: news) → (∀ p ∈ news, p.1 ≠ D) → h.Ns C m' → h₀.get? C = none → h₀.get? D = none → C ≠ L → D ≠ L → C ≠ D → (∀ p ∈ news, p.1 ≠ C) → EnIs P its ys → RR (.ref D) C (.ok .next) { s₂ with heap := h, toks := tk }) :
    wpAny (model prog w) A (newList []) (fun acc s₃ => wpAny (model prog w) A (newFunctionEnv scope env.globals cl [] env.qual none .none (some env)) (fun cenv s₄ =>
      codeAny (model prog w) A (.compStart (.ListComp elt [⟨.Tuple [.Name a pa, .Name b pb] kk tp, iter, [], 0⟩] scope pos) 0 (.ref e) acc { cenv with scope := relabel scope env }) (RR acc cenv.locals) s₄) E s₃) E s₂ := by
  refine wpAny_newObj_type (wpAny_newFunctionEnv hcell (by intro y hy; simp at hy) (fun h₁ hns₁ hsb₁ => ?_) hkind)
  dsimp only at hns₁ hsb₁ ⊢
  generalize hH2 : s₂.heap.push { cls := .type "list", dict := none, data := .seq ([] : List Value).toArray } = H2 at hns₁ hsb₁ ⊢
  have hC : H2.objs.size = s₂.heap.objs.size + 1 := by rw [← hH2, Heap.size_push]
  have hDC : s₂.heap.objs.size ≠ H2.objs.size := by rw [hC]; exact Nat.ne_of_lt (Nat.lt_succ_self _)
  have below : ∀ b, b < s₂.heap.objs.size → b ≠ H2.objs.size ∧ b ≠ s₂.heap.objs.size := fun b hb => ⟨by rw [hC]; exact Nat.ne_of_lt (Nat.lt_succ_of_lt hb), Nat.ne_of_lt hb⟩
  have helt : e < s₂.heap.objs.size := Heap.lt_size he
  have hilt : it < s₂.heap.objs.size := by obtain ⟨_, x, _⟩ := hit; exact Heap.lt_size x
  have old : ∀ b o, s₂.heap.get? b = some o → h₁.get? b = some o := fun b o x => hsb₁.extBut b o (below b (Heap.lt_size x)).1 (Heap.get?_push_of_some _ (hH2 ▸ Heap.get?_push_of_some _ x))
  have hacc : h₁.get? s₂.heap.objs.size = some (lst []) := hsb₁.extBut _ _ hDC (Heap.get?_push_of_some _ (hH2 ▸ Heap.get?_push_size _ rfl))
  have fresh : ∀ a, s₂.heap.objs.size ≤ a → h₀.get? a = none := fun a ha => by
    cases q : h₀.get? a with
    | none => rfl
    | some o' => exact absurd (Heap.lt_size (F.keep a o' q)) (Nat.not_lt.mpr ha)
  have hD₀ : h₀.get? s₂.heap.objs.size = none := fresh _ (Nat.le_refl _)
  have hC₀ : h₀.get? H2.objs.size = none := fresh _ (by rw [hC]; exact Nat.le_succ _)
  have hLlt : L < s₂.heap.objs.size := F.ns.lt
  have hDL : s₂.heap.objs.size ≠ L := Ne.symm (below L hLlt).2
  have hCL : H2.objs.size ≠ L := Ne.symm (below L hLlt).1
  have hCe : e ≠ H2.objs.size := (below e helt).1
  have hDe : e ≠ s₂.heap.objs.size := (below e helt).2
  have hCi : it ≠ H2.objs.size := (below it hilt).1
  have hDi : it ≠ s₂.heap.objs.size := (below it hilt).2
  have offD : ∀ p ∈ news, p.1 ≠ s₂.heap.objs.size := fun p hp => (below _ (Heap.lt_size (N p hp).1)).2
  have offC : ∀ p ∈ news, p.1 ≠ H2.objs.size := fun p hp => (below _ (Heap.lt_size (N p hp).1)).1
  have hle : l ≠ e := (off _ hm).1
  have hli : l ≠ it := (off _ hm).2
  have W := KTurns.ofWalksU (elts := [.Name a pa, .Name b pb]) (k := kk) (pos := tp) (WalksT.enumerate (prog := prog) (w := w) (A := A) hh e it l hei hle hli its.toArray).toU
  have lst_at : ∀ h, News h₀ L h news → h.IsList l its.toArray := fun h N' => ⟨_, (N' _ hm).1, rfl, _, rfl⟩
  have loop : ∀ s₃ : Shared, s₃ = { s₂ with heap := h₁, toks := s₂.toks + ([] : List (Str × Value)).length } →
      codeAny (model prog w) A (.compLoop (.ListComp elt [⟨.Tuple [.Name a pa, .Name b pb] kk tp, iter, [], 0⟩] scope pos) 0 (.ref e) (.ref s₂.heap.objs.size) (compEnvC scope cl H2.objs.size env))
        (RR (.ref s₂.heap.objs.size) H2.objs.size) s₃ := by
    rintro s₃ rfl
    refine kcp_loop
      (fun k s' => ∃ h' tk i ys m', s' = { s₂ with heap := h', toks := tk } ∧ i ≤ its.length ∧ k = its.length + 1 - i ∧ ys.length = i ∧ ((∃ old, IsEnum h' e it i old) ∧ h'.IsListIter it l i) ∧ Fr h₀ L h' m ∧ h'.Ns H2.objs.size m' ∧
        News h₀ L h' ((s₂.heap.objs.size, lst ys) :: news) ∧ ∀ j v, j < i → its[j]? = some v → ∃ y, ys[j]? = some y ∧ P j v y) ?_ (its.length + 1)
      ⟨h₁, _, 0, [], _, rfl, Nat.zero_le _, rfl, rfl, ⟨⟨_, old _ _ he⟩, hit.at fun o x => old _ _ x⟩, F.keeps old, hns₁, fun p hp => ?_, fun j v hj => absurd hj (Nat.not_lt_zero _)⟩
    · rintro k s' ⟨h', tk, i, ys, m', rfl, hi, rfl, hyl, ⟨hE', hI'⟩, F', hn', N', hP'⟩
      have N'' : News h₀ L h' news := fun p hp => N' p (.tail _ hp)
      by_cases hlt : i < its.length
      · refine W.item i _ _ _ (by simpa using hlt) ⟨hE', hI', lst_at _ N''⟩ fun v h₂ tk₂ hMd hk₂ => ?_
        refine W.go i v _ _ _ hMd fun h₃ hPt hst₃ hk₃ => ?_
        obtain ⟨T, vals, rfl, ⟨t, x, hx, rfl⟩, hT⟩ := hPt
        have hx' : its[i]? = some x := by simpa using hx
        have up₃ : ∀ c o, c ≠ e → c ≠ it → h'.get? c = some o → h₃.get? c = some o := fun c o h1 h2 q => hk₃ c o (by simp [h1, h2]) (hk₂ c o (by simp [h1, h2]) q)
        refine kcp_assign (env := compEnvC scope cl H2.objs.size env) hh hT (lookup_relabel_local hxa) (lookup_relabel_local hxb) (by simp [compEnvC, relabel, hkind]) (hn'.at' fun o q => up₃ _ o (Ne.symm hCe) (Ne.symm hCi) q) fun h₄ tk₄ hn₄ hs₄ => ?_
        have up : ∀ c o, c ≠ e → c ≠ it → c ≠ H2.objs.size → h'.get? c = some o → h₄.get? c = some o := fun c o h1 h2 h3 q => hs₄ c o h3 (up₃ c o h1 h2 q)
        obtain ⟨⟨old₃, hE₃⟩, hI₃, _⟩ := hst₃
        have hE₄ : IsEnum h₄ e it ((i + 1 : Nat) : Int) old₃ := hs₄ e _ hCe hE₃
        have hI₄ : h₄.IsListIter it l (i + 1) := hI₃.at fun o q => hs₄ it o hCi q
        obtain ⟨oC, heC, hoC⟩ := ns_obj hn₄
        have F₄ : Fr h₀ L h₄ m := ⟨F'.ns.at' fun o q => up _ o hLe hLi (Ne.symm hCL) q, fun c o q => up c o (fun z => by rw [z, he₀] at q; cases q) (fun z => by rw [z, hi₀] at q; cases q) (fun z => by rw [z, hC₀] at q; cases q) (F'.keep c o q), F'.above⟩
        have N₄ : News h₀ L h₄ ((H2.objs.size, oC) :: (s₂.heap.objs.size, lst ys) :: news) := fun q hq => by
          rcases List.mem_cons.mp hq with rfl | hq
          · exact ⟨heC, hCL, hC₀⟩
          · have z := N' q hq
            refine ⟨up _ _ ?_ ?_ ?_ z.1, z.2⟩
            · rcases List.mem_cons.mp hq with rfl | hq
              · exact Ne.symm hDe
              · exact (off q hq).1
            · rcases List.mem_cons.mp hq with rfl | hq
              · exact Ne.symm hDi
              · exact (off q hq).2
            · rcases List.mem_cons.mp hq with rfl | hq
              · exact hDC
              · exact offC q hq
        refine wpAny_mono (R i x t H2.objs.size oC _ h₄ _ _ hx' hoC (by simp [hab]) (by simp) F₄ (fun q hq => N₄ q (by
          rcases List.mem_cons.mp hq with rfl | hq
          · exact .head _
          · exact .tail _ (.tail _ hq)))) (fun y s₅ h₅ => ?_) fun _ _ q => q
        obtain ⟨hPy, h₅, tk₅, rfl, hk₅⟩ := h₅
        have zC := hk₅ _ _ heC
        have zD := hk₅ _ _ (N₄ (s₂.heap.objs.size, lst ys) (.tail _ (.head _))).1
        refine append_at (hsz := by show ys.toArray.size ≤ sizeLine; rw [List.size_toArray, hyl]; exact Nat.le_trans hi hsz) zD fun h₆ hs₆ hD₆ => ?_
        refine ⟨its.length + 1 - (i + 1), by omega, h₆, tk₅, i + 1, ys ++ [y], _, rfl, hlt, rfl, by rw [List.length_append, List.length_singleton, hyl], ⟨⟨old₃, hs₆.extBut _ _ hDe (hk₅ _ _ hE₄)⟩, (hI₄.at fun o q => hk₅ _ o q).extBut hs₆.extBut hDi⟩,
          (F₄.keeps hk₅).change hs₆ hDL hD₀, (hoC.ns zC).sameBut hs₆ (Ne.symm hDC), fun q hq => ?_, fun j v hj hv => ?_⟩
        · rcases List.mem_cons.mp hq with rfl | hq
          · exact ⟨hD₆.trans (congrArg some (lst_snoc ys y)), hDL, hD₀⟩
          · have z := N₄ q (.tail _ (.tail _ hq))
            exact ⟨hs₆.extBut _ _ (offD q hq) (hk₅ _ _ z.1), z.2⟩
        · rcases Nat.lt_or_ge j i with hji | hji
          · obtain ⟨r, hr, hp⟩ := hP' j v hji hv
            exact ⟨r, by rw [List.getElem?_append_left (by rw [hyl]; exact hji)]; exact hr, hp⟩
          · obtain rfl : j = i := by omega
            obtain rfl : x = v := by rw [hx'] at hv; exact Option.some.inj hv
            exact ⟨y, by rw [List.getElem?_append_right (by rw [hyl]; exact Nat.le_refl _), hyl, Nat.sub_self]; rfl, hPy⟩
      · obtain rfl : i = its.length := Nat.le_antisymm hi (Nat.not_lt.mp hlt)
        refine W.done _ _ _ ⟨by simpa using hE', by simpa using hI', lst_at _ N''⟩ fun h₂ tk₂ hk₂ => ?_
        have up : ∀ c o, c ≠ e → c ≠ it → h'.get? c = some o → h₂.get? c = some o := fun c o h1 h2 q => hk₂ c o (by simp [h1, h2]) q
        refine hRR _ _ h₂ tk₂ _ ys ⟨F'.ns.at' fun o q => up _ o hLe hLi q, fun c o q => up c o (fun z => by rw [z, he₀] at q; cases q) (fun z => by rw [z, hi₀] at q; cases q) (F'.keep c o q), F'.above⟩
          (fun q hq => ?_) offD (hn'.at' fun o q => up _ o (Ne.symm hCe) (Ne.symm hCi) q) hC₀ hD₀ hCL hDL (Ne.symm hDC) offC ⟨hyl, fun j v hv => hP' j v (List.getElem?_eq_some_iff.mp hv).1 hv⟩
        have z := N' q hq
        refine ⟨up _ _ ?_ ?_ z.1, z.2⟩
        · rcases List.mem_cons.mp hq with rfl | hq
          · exact Ne.symm hDe
          · exact (off q hq).1
        · rcases List.mem_cons.mp hq with rfl | hq
          · exact Ne.symm hDi
          · exact (off q hq).2
    · rcases List.mem_cons.mp hp with rfl | hp
      · exact ⟨hacc, hDL, hD₀⟩
      · exact ⟨old _ _ (N p hp).1, (N p hp).2⟩
  exact codeAny_compStart_list (loop _ rfl) (wpAny_pyIter_enum (old _ _ he) (loop _ rfl))
/-- a name bound to the list of pairs' elements; the source is enumerate of a made list -/
theorem en_assign {elt iter : PySem.Expr} {a b y : Str} {pa pb tp py : Pos} {kk : Nat} {scope : Scope} {cl : List (Str × Addr)} {pos spos : Pos} {l : Addr} {its : List Value} {nl : Nat} {news : List (Addr × Obj)} {Q : Flow → Shared → Prop} (P : Nat → Value → Value → Prop)
    (F : Fr h₀ L s.heap m) (N : News h₀ L s.heap news) (hLe : env.locals = L) (hm : (l, ({ cls := .type "list", data := .seq its.toArray nl } : Obj)) ∈ news) (hsz : its.length ≤ 100000) (hh : A.handled = none)
    (hsw : swapsWith (.ListComp elt [⟨.Tuple [.Name a pa, .Name b pb] kk tp, iter, [], 0⟩] scope pos) (some (.Name y py)) spos.line env = pure true)
    (hclos : closureFor scope env = pure cl) (hcell : ∀ z ∈ scope.names, z.2 ≠ .cell) (hkind : scope.kind = .function)
    (hnames : ∀ z ∈ scope.names, z.2 = .local → scope.names.lookup z.1 = some .local) (hxa : scope.names.lookup a = some .local) (hxb : scope.names.lookup b = some .local) (hab : ¬ a = b)
    (hy : env.kindOf y = some .local) (hp : (env.scope.kind == .class || (env.scope.kind == .module && env.locals != env.globals)) = false)
    (hiter : ∀ Q' : Value → Shared → Prop, (∀ tk, wpAny (model prog w) A (call (.type "enumerate") [.ref l]) Q' E { s with toks := tk }) → wpAny (model prog w) A (eval iter env) Q' E s)
    (R : ∀ h tk, EnElt prog w A h₀ L m env elt a b scope cl { s with heap := h, toks := tk } P its news)
    (h : ∀ D h' tk ys, Fr h₀ L h' (fun z => if z = y then some (.ref D) else m z) → News h₀ L h' ((D, lst ys) :: news) → (∀ p ∈ news, p.1 ≠ D) → EnIs P its ys → Q .next { s with heap := h', toks := tk })
    (hs : ∀ x, foldedSetIterable iter env x = pure x) :
    wpAny (model prog w) A (exec (.Assign [.Name y py] (.ListComp elt [⟨.Tuple [.Name a pa, .Name b pb] kk tp, iter, [], 0⟩] scope pos) spos) env) Q E s := by
  subst hLe
  rw [exec_Assign_Name_used _ _ _ _ hsw]
  refine wpAny_bind (wpAny_standAt (wpAny_bind ?_))
  show wpAny _ A (do let _ ← comprehension (.ListComp elt [⟨.Tuple [.Name a pa, .Name b pb] kk tp, iter, [], 0⟩] scope pos) scope env _ (newList []) false (eval iter env) (some (assign (.Name y py) env))) _ _ s
  refine wpAny_bind (wpAny_mono (wpAny_comprehension_free (use := some (assign (.Name y py) env)) (Q := fun _ s' => Q .next s') rfl hs hclos hkind hnames
    (hiter _ fun tk => ?_)) (fun _ s' hq => wpAny_pure (wpAny_pure hq)) fun _ _ q => q)
  have hl : s.heap.IsList l its.toArray := ⟨_, (N _ hm).1, rfl, _, rfl⟩
  refine call_enumerate_list (s := { s with toks := tk }) hl fun h' hE hI hs2 hk => ?_
  refine wpAny_pyIter_enum hE ?_
  have lt : ∀ c, h₀.get? c = none ∨ c ≠ s.heap.objs.size := fun c => by
    by_cases q : c = s.heap.objs.size
    · subst q; exact .inl (Heap.get?_none_of_le (Nat.le_trans F.above (Nat.le_of_lt F.ns.lt)))
    · exact .inr q
  have hnone : ∀ c, s.heap.objs.size ≤ c → h₀.get? c = none := fun c hc => Heap.get?_none_of_le (Nat.le_trans F.above (Nat.le_trans (Nat.le_of_lt F.ns.lt) hc))
  have hLlt : env.locals < s.heap.objs.size := F.ns.lt
  refine en_block (s₂ := { s with heap := h', toks := tk }) hh (Nat.succ_ne_self _) (by rw [sizeLine_eq]; omega) hm hE hI hcell hkind hxa hxb hab (F.keeps hk) (fun p hp => ⟨hk _ _ (N p hp).1, (N p hp).2⟩)
    (Nat.ne_of_lt (Nat.lt_succ_of_lt hLlt)) (Nat.ne_of_lt hLlt) (hnone _ (Nat.le_succ _)) (hnone _ (Nat.le_refl _)) (fun p hp => ⟨Nat.ne_of_lt (Nat.lt_succ_of_lt (Heap.lt_size (N p hp).1)), Nat.ne_of_lt (Heap.lt_size (N p hp).1)⟩) (R h' tk) ?_
  intro D C h2 tk2 m' ys F' N' o1 hn hC₀ hD₀ hCL hDL hCD offC fin
  show wpAny _ A (assign (.Name y py) env (.ref D)) _ _ _
  refine wpAny_assign_Name (wpAny_storeName_local hy F'.ns (fun h₂ hn₂ hs₂ => ?_) hp)
  have hL₀ : h₀.get? env.locals = none := Heap.get?_none_of_le F'.above
  have F₂ : Fr h₀ env.locals h₂ (fun z => if z = y then some (.ref D) else m z) := ⟨hn₂, fun b o q => hs₂.extBut b o (fun z => by rw [z, hL₀] at q; cases q) (F'.keep b o q), F'.above⟩
  refine ⟨m', hn.sameBut hs₂ hCL, fun h'' hs'' => h D h'' _ ys (F₂.change hs'' hCL hC₀) (fun p hp => ?_) o1 fin⟩
  have z : h₂.get? p.1 = some p.2 := hs₂.extBut _ _ (N' p hp).2.1 (N' p hp).1
  refine ⟨hs''.extBut _ _ ?_ z, (N' p hp).2⟩
  rcases List.mem_cons.mp hp with rfl | hp
  · exact Ne.symm hCD
  · exact offC p hp
end
end
section
open PySem PySem.W PyProof.Rows PySem.Spec PySem.Calls PyProof.Rows.LCg
theorem off3_of1 {D : Addr} : ∀ {l : List (Addr × Obj)}, Off1 D l → ∀ p ∈ l, p.1 ≠ D
  | [], _, _, h => nomatch h
  | _ :: _, x, p, h => by
    rcases List.mem_cons.mp h with rfl | h
    · exact x.1
    · exact off3_of1 x.2 p h
section
variable {prog : Program} {w : World} {A : Around} {E : Value → Shared → Prop} {s : Shared} {h₀ : Heap} {L : Addr} {m : Str → Option Value} {env : Env}
noncomputable def ClElt (prog : Program) (w : World) (A : Around) (h₀ : Heap) (L : Addr) (m : Str → Option Value) (env : Env) (elt : PySem.Expr) (x : Str) (scope : Scope) (cl : List (Str × Addr)) (s : Shared) (P : Nat → Value → Value → Prop) (its : List Value) (news : List (Addr × Obj)) : Prop :=
  ∀ (i : Nat) (v : Value) (I C D : Addr) (oI oC : Obj) (ys : List Value) (m₂ : Str → Option Value) (h : Heap) (tk : Nat) (E' : Value → Shared → Prop), its[i]? = some v → NsObj oC m₂ → m₂ x = some v → Fr h₀ L h m → News h₀ L h ((I, oI) :: (C, oC) :: (D, lst ys) :: news) →
    wpAny (model prog w) A (eval elt (compEnvC scope cl C env)) (fun y s' => P i v y ∧ ∃ h' tk', s' = { s with heap := h', toks := tk' } ∧ Fr h₀ L h' m ∧ News h₀ L h' ((I, oI) :: (C, oC) :: (D, lst ys) :: news)) E' { s with heap := h, toks := tk }
theorem cl_rest {elt : PySem.Expr} {x : Str} {scope : Scope} {cl : List (Str × Addr)} {S : List (Addr × Obj) → Prop} {Fin : List Value → List (Addr × Obj) → Prop} {its : List Value} {news : List (Addr × Obj)} {P : Nat → Value → Value → Prop}
    (hS : S news) (R : ClElt prog w A h₀ L m env elt x scope cl s P its news) (fin : ∀ ys, EnIs P its ys → Fin ys news) :
    ∀ (k i : Nat) (ys : List Value), i + k = its.length → ys.length = i → (∀ j v, j < i → its[j]? = some v → ∃ y, ys[j]? = some y ∧ P j v y) → CompRest prog w A h₀ L m env elt x scope cl s S (fun i v => its.toArray[i]? = some v) Fin k i ys news
  | 0, i, ys, hk, hl, hP => CompRest.zero (fin ys ⟨by omega, fun j v hv => hP j v (by have := (List.getElem?_eq_some_iff.mp hv).1; omega) hv⟩)
  | k + 1, i, ys, hk, hl, hP => CompRest.succ fun v I oI C oC D m₂ h tk E' hv hC hx F N off ne => by
    have hv' : its[i]? = some v := by simpa using hv
    refine wpAny_mono (R i v I C D oI oC ys m₂ h tk E' hv' hC hx F N) (fun y s' hq => ?_) fun _ _ q => q
    obtain ⟨hPy, h', tk', rfl, F', N'⟩ := hq
    refine ⟨h', tk', news, rfl, F', N', off, hS, cl_rest hS R fin k (i + 1) (ys ++ [y]) (by omega) (by rw [List.length_append, List.length_singleton, hl]) fun j v' hj hv2 => ?_⟩
    rcases Nat.lt_or_ge j i with hji | hji
    · obtain ⟨r, hr, hp⟩ := hP j v' hji hv2
      exact ⟨r, by rw [List.getElem?_append_left (by rw [hl]; exact hji)]; exact hr, hp⟩
    · obtain rfl : j = i := by omega
      obtain rfl : v = v' := by rw [hv'] at hv2; exact Option.some.inj hv2
      exact ⟨y, by rw [List.getElem?_append_right (by rw [hl]; exact Nat.le_refl _), hl, Nat.sub_self]; rfl, hPy⟩
theorem cl_eval {elt iter : PySem.Expr} {x : Str} {px : Pos} {scope : Scope} {cl : List (Str × Addr)} {pos : Pos} {l : Addr} {its : List Value} {nl : Nat} {news : List (Addr × Obj)} {Q : Value → Shared → Prop} (P : Nat → Value → Value → Prop)
    (F : Fr h₀ L s.heap m) (N : News h₀ L s.heap news) (hm : (l, ({ cls := .type "list", data := .seq its.toArray nl } : Obj)) ∈ news) (hsz : its.length ≤ 100000) (hh : A.handled = none)
    (hclos : closureFor scope env = pure cl) (hcell : ∀ z ∈ scope.names, z.2 ≠ .cell) (hkind : scope.kind = .function)
    (hnames : ∀ z ∈ scope.names, z.2 = .local → scope.names.lookup z.1 = some .local) (hx : scope.names.lookup x = some .local)
    (hiter : ∀ Q' : Value → Shared → Prop, (∀ tk, Q' (.ref l) { s with toks := tk }) → wpAny (model prog w) A (eval iter env) Q' E s)
    (R : ∀ h tk, ClElt prog w A h₀ L m env elt x scope cl { s with heap := h, toks := tk } P its news)
    (h : ∀ D h' tk ys, Fr h₀ L h' m → News h₀ L h' ((D, lst ys) :: news) → (∀ p ∈ news, p.1 ≠ D) → EnIs P its ys → Q (.ref D) { s with heap := h', toks := tk })
    (hs : ∀ x, foldedSetIterable iter env x = pure x) :
    wpAny (model prog w) A (eval (.ListComp elt [⟨.Name x px, iter, [], 0⟩] scope pos) env) Q E s := by
  refine ListComp_U F hclos hcell hkind hnames hx (hiter _ fun tk => ?_) hs
  refine CompSrc.ledger hh F N hm (by rw [sizeLine_eq]; simp only [List.size_toArray]; omega) fun g => ?_
  simp only [List.size_toArray]
  exact cl_rest (.inr ⟨_, hm, rfl, _, rfl⟩) (R g tk) (fun ys he D h' tk' F' N' o1 => h D h' tk' ys F' N' (off3_of1 o1) he) its.length 0 [] (by omega) rfl fun j v hj => absurd hj (Nat.not_lt_zero _)
theorem cl_assign {elt iter : PySem.Expr} {x y : Str} {px py : Pos} {scope : Scope} {cl : List (Str × Addr)} {pos spos : Pos} {l : Addr} {its : List Value} {nl : Nat} {news : List (Addr × Obj)} {Q : Flow → Shared → Prop} (P : Nat → Value → Value → Prop)
    (F : Fr h₀ L s.heap m) (N : News h₀ L s.heap news) (hLe : env.locals = L) (hm : (l, ({ cls := .type "list", data := .seq its.toArray nl } : Obj)) ∈ news) (hsz : its.length ≤ 100000) (hh : A.handled = none)
    (hsw : swapsWith (.ListComp elt [⟨.Name x px, iter, [], 0⟩] scope pos) (some (.Name y py)) spos.line env = pure true)
    (hclos : closureFor scope env = pure cl) (hcell : ∀ z ∈ scope.names, z.2 ≠ .cell) (hkind : scope.kind = .function)
    (hnames : ∀ z ∈ scope.names, z.2 = .local → scope.names.lookup z.1 = some .local) (hx : scope.names.lookup x = some .local)
    (hy : env.kindOf y = some .local) (hp : (env.scope.kind == .class || (env.scope.kind == .module && env.locals != env.globals)) = false)
    (hiter : ∀ Q' : Value → Shared → Prop, (∀ tk, Q' (.ref l) { s with toks := tk }) → wpAny (model prog w) A (eval iter env) Q' E s)
    (R : ∀ h tk, ClElt prog w A h₀ L m env elt x scope cl { s with heap := h, toks := tk } P its news)
    (h : ∀ D h' tk ys, Fr h₀ L h' (fun z => if z = y then some (.ref D) else m z) → News h₀ L h' ((D, lst ys) :: news) → (∀ p ∈ news, p.1 ≠ D) → EnIs P its ys → Q .next { s with heap := h', toks := tk })
    (hs : ∀ x, foldedSetIterable iter env x = pure x) :
    wpAny (model prog w) A (exec (.Assign [.Name y py] (.ListComp elt [⟨.Name x px, iter, [], 0⟩] scope pos) spos) env) Q E s := by
  refine Assign_ListComp_U F hLe hsw hclos hcell hkind hnames hx hy hp (hiter _ fun tk => ?_) hs
  refine CompSrc.ledger hh F N hm (by rw [sizeLine_eq]; simp only [List.size_toArray]; omega) fun g => ?_
  simp only [List.size_toArray]
  exact cl_rest (.inr ⟨_, hm, rfl, _, rfl⟩) (R g tk) (fun ys he D h' tk' F' N' o1 => h D h' tk' ys F' N' (off3_of1 o1) he) its.length 0 [] (by omega) rfl fun j v hj => absurd hj (Nat.not_lt_zero _)
end
end
section
open PySem PySem.W PyProof.Rows PySem.Spec PySem.Calls
noncomputable def okD : Nat → Dat → Bool
  | _, .none => true
  | _, .bool _ => true
  | _, .int _ => true
  | n + 1, .list ds => ds.all (okD n)
  | _, _ => false
section
variable {h₀ h : Heap} {L : Addr} {news : List (Addr × Obj)}
mutual
theorem rd_in (N : News h₀ L h news) : ∀ {v : Value} {d : Dat} (n : Nat), DatIn news v d → okD n d = true → ∃ as, Reads h v (kqdP d) as
  | _, _, _, .none, _ => ⟨_, Reads.none⟩
  | _, _, _, .bool b, _ => ⟨_, Reads.bool b⟩
  | _, _, _, .int i t, _ => ⟨_, Reads.int i t⟩
  | _, _, n, .str x t, hk => by cases n <;> simp [okD] at hk
  | _, _, n, .bytes _ _, hk => by cases n <;> simp [okD] at hk
  | _, _, n, .tuple _ _, hk => by cases n <;> simp [okD] at hk
  | _, _, 0, .list _ _, hk => by simp [okD] at hk
  | _, _, n + 1, .list hm r, hk => by
    obtain ⟨as, q⟩ := rd_all N n r (by simpa [okD] using hk)
    rw [kqdP]
    exact ⟨_, reads_list_at (N.get hm) rfl rfl (by simpa [W.listOf] using q)⟩
theorem rd_all (N : News h₀ L h news) : ∀ {vs : List Value} {ds : List Dat} (n : Nat), DatAll news vs ds → (∀ d ∈ ds, okD n d = true) → ∃ as, ReadsAll h vs (kqdPs ds) as
  | _, _, _, .nil, _ => ⟨_, ReadsAll.nil⟩
  | _, _, n, .cons hd r, hk => by
    obtain ⟨as, q⟩ := rd_in N n hd (hk _ (.head _))
    obtain ⟨bs, p⟩ := rd_all N n r fun d hm => hk d (.tail _ hm)
    rw [kqdPs]
    exact ⟨_, ReadsAll.cons q p⟩
end
end
theorem rd_lay : ∀ (n : Nat) (d : Dat), okD n d = true → (kqdP d).canLay0 = true ∧ (kqdP d).depth ≤ n := by
  have all : ∀ (n : Nat), (∀ d, okD n d = true → (kqdP d).canLay0 = true ∧ (kqdP d).depth ≤ n) → ∀ ds : List Dat, (∀ d ∈ ds, okD n d = true) → PyData.canLayAll0 (kqdPs ds) = true ∧ PyData.depthAll (kqdPs ds) ≤ n := by
    intro n ih ds
    induction ds with
    | nil => intro _; simp [kqdPs, PyData.canLayAll0, PyData.depthAll]
    | cons d ds hi =>
      intro h
      have h1 := ih d (h d (.head _))
      have h2 := hi fun e he => h e (.tail _ he)
      simp only [kqdPs, PyData.canLayAll0, PyData.depthAll, h1.1, h2.1, Bool.and_self, true_and]
      have a1 := h1.2
      have a2 := h2.2
      omega
  intro n
  induction n with
  | zero =>
    intro d h
    cases d <;> simp_all [okD, kqdP, PyData.canLay0, PyData.depth]
  | succ n ih =>
    intro d h
    cases d with
    | list ds =>
      have q := all n ih ds (by simpa [okD] using h)
      have q2 := q.2
      simp only [kqdP, PyData.canLay0, PyData.depth, q.1, true_and]
      omega
    | _ => simp_all [okD, kqdP, PyData.canLay0, PyData.depth]
theorem ok_sg (l : List Nat) : okD 1 (sgD l) = true := by
  unfold sgD
  simp [okD]
theorem ok_pcs (ps : List Pc) : okD 3 (pcsD ps) = true := by
  unfold pcsD
  simp only [okD, List.all_map, List.all_eq_true, Function.comp]
  intro p _
  unfold pcD
  simp [okD, ok_sg]
theorem ok_two (a b : List Pc) : okD 4 (.list [pcsD a, pcsD b]) = true := by
  simp [okD, ok_pcs]
theorem dat_ref {news : List (Addr × Obj)} {r : Value} {ps : List Pc} (h : DatIn news r (pcsD ps)) : ∃ a, r = .ref a := by
  cases h
  exact ⟨_, rfl⟩
theorem law_fin {nw11 nw12 nw13 nw14 : List (Addr × Obj)} {l1 l2 a11 a12 a13 a14 : Addr} {k1 k2 : Nat} {p q : List Pc} (d11 : DatIn nw11 (.ref a11) (pcsD p)) (s12 : ∀ x ∈ nw11, x ∈ nw12) (d12 : DatIn nw12 (.ref a12) (pcsD q))
    (s13 : ∀ x ∈ (l1, W.listOf (List.toArray [Value.ref a11, Value.ref a12]) k1) :: nw12, x ∈ nw13) (d13 : DatIn nw13 (.ref a13) (pcsD p)) (s14 : ∀ x ∈ nw13, x ∈ nw14) (d14 : DatIn nw14 (.ref a14) (pcsD q)) :
    DatIn ((l2, W.listOf (List.toArray [Value.ref a13, Value.ref a14]) k2) :: nw14) (.ref l1) (.list [pcsD p, pcsD q]) ∧ DatIn ((l2, W.listOf (List.toArray [Value.ref a13, Value.ref a14]) k2) :: nw14) (.ref l2) (.list [pcsD p, pcsD q]) ∧
      ∀ x ∈ nw11, x ∈ (l2, W.listOf (List.toArray [Value.ref a13, Value.ref a14]) k2) :: nw14 := by
  have hA : ∀ x ∈ nw13, x ∈ (l2, W.listOf (List.toArray [Value.ref a13, Value.ref a14]) k2) :: nw14 := fun x hx => .tail _ (s14 x hx)
  have hB : ∀ x ∈ nw12, x ∈ (l2, W.listOf (List.toArray [Value.ref a13, Value.ref a14]) k2) :: nw14 := fun x hx => hA x (s13 x (.tail _ hx))
  exact ⟨.list (hA _ (s13 _ (.head _))) (.cons (d11.mono fun x hx => hB x (s12 x hx)) (.cons (d12.mono hB) .nil)), .list (.head _) (.cons (d13.mono hA) (.cons (d14.mono fun x hx => .tail _ hx) .nil)), fun x hx => hB x (s12 x hx)⟩
section
variable {prog : Program} {w : World} {A : Around} {E : Value → Shared → Prop} {s : Shared} {h₀ : Heap} {L : Addr} {news : List (Addr × Obj)} {Q : Value → Shared → Prop}
theorem ij_eqDat {x y : Value} {n : Nat} {d : Dat} (N : News h₀ L s.heap news) (h1 : DatIn news x d) (h2 : DatIn news y d) (hok : okD n d = true) (hn : n ≤ 64) (hu : A.units + 64 < cLine) (h : Q (.bool true) s) :
    wpAny (model prog w) A (compareOp .Eq x y) Q E s := by
  obtain ⟨as, r1⟩ := rd_in N n h1 hok
  obtain ⟨bs, r2⟩ := rd_in N n h2 hok
  have l := rd_lay n d hok
  have hs : PySem.SeqAt.shaped (kqdP d) = true := by
    unfold PySem.SeqAt.shaped
    rw [l.1, Bool.true_and, decide_eq_true_iff]
    omega
  refine PySem.SeqAt.compareEq_shaped r1 r2 hs hs hu ?_
  rw [show PyData.eqv (kqdP d) (kqdP d) = true from PySem.SeqAt.eqv_refl _ l.1]
  exact h
end
end
section
open PySem PySem.W PyProof.Rows PySem.Spec PySem.Calls
noncomputable def isP (n : Int) : Bool := decide (32 ≤ n ∧ n ≤ 126)
theorem isP_yes {n : Int} (h : 32 ≤ n) (h' : n ≤ 126) : isP n = true := decide_eq_true ⟨h, h'⟩
theorem isP_low {n : Int} (h : ¬ 32 ≤ n) : isP n = false := decide_eq_false fun e => h e.1
theorem isP_top {n : Int} (h : ¬ n ≤ 126) : isP n = false := decide_eq_false fun e => h e.2
theorem isP_hi {n : Int} (h : 32 ≤ n) : isP n = decide (n ≤ 126) := by
  by_cases h1 : n ≤ 126
  · rw [isP_yes h h1, decide_eq_true h1]
  · rw [isP_top h1, decide_eq_false h1]
theorem isP_lo {n : Int} (h : ¬ 32 ≤ n) : isP n = decide (32 ≤ n) := by rw [isP_low h, decide_eq_false h]
theorem isP_no {n : Int} (h : ¬ isP n = true) : ¬ 32 ≤ n ∨ ¬ n ≤ 126 := by
  by_cases h1 : 32 ≤ n
  · exact .inr fun h2 => h (isP_yes h1 h2)
  · exact .inl h1
section
variable {n : Int}
theorem uw_1 (h0 : n ≠ 127) (h1 : isP (Builtin.bitAnd n 127) = true) (h3 : Builtin.bitAnd n 128 ≠ 0) : Str.ofString "!" ++ ⟨#[(Builtin.bitAnd n 127).toNat]⟩ = tx (uText n) := uw_c h0 (of_decide_eq_true h1).1 (of_decide_eq_true h1).2 h3
theorem uw_2 (h0 : n ≠ 127) (h1 : isP (Builtin.bitAnd n 127) = true) (h3 : Builtin.bitAnd n 128 = 0) : (⟨#[(Builtin.bitAnd n 127).toNat]⟩ : Str) = tx (uText n) := uw_d h0 (of_decide_eq_true h1).1 (of_decide_eq_true h1).2 h3
theorem uw_3 (h0 : n ≠ 127) (h1 : ¬ isP (Builtin.bitAnd n 127) = true) (h3 : Builtin.bitAnd n 128 ≠ 0) : Str.ofString "!" ++ (Str.ofString "^" ++ ⟨#[(Builtin.bitOr (Builtin.bitAnd n 127) 32 + 32).toNat]⟩) = tx (uText n) := (isP_no h1).elim (fun h => uw_e h0 h h3) fun h => uw_g h0 h h3
theorem uw_4 (h0 : n ≠ 127) (h1 : ¬ isP (Builtin.bitAnd n 127) = true) (h3 : Builtin.bitAnd n 128 = 0) : Str.ofString "^" ++ ⟨#[(Builtin.bitOr (Builtin.bitAnd n 127) 32 + 32).toNat]⟩ = tx (uText n) := (isP_no h1).elim (fun h => uw_f h0 h h3) fun h => uw_h h0 h h3
theorem and_room (n : Int) : 0 ≤ Builtin.bitAnd n 127 ∧ Builtin.bitAnd n 127 ≤ 127 := by rw [and127]; omega
theorem nt_f {b : Bool} (h : b = false) : ¬ b = true := by rw [h]; exact Bool.false_ne_true
end
theorem c_ctoi_int {w p loose mean mg mb} (news : List (Addr × Obj)) (n : Int) (t : Tok) :
    Calls w p loose mean mg mb 76 news [.int n t] 1 (fun r news' => (∃ t, r = .int n t) ∧ news' = news) := by
  unfold Calls
  k_fill
  intro dp un gd cn cs a ccd cl outer A₀ base h₀ L m s Q E B F X N T hk hdp hun hret
  refine wpAny_call ?_
  k_dflt (((refine' code_def ?k1x1 ?k2x1 ?k3x1 ?k4x1 ?k5x1 ?kAx1 ?kFx1 ?kKx1 ?k6x1 ?k7x1 ?k8x1 ?k9x1 ?kBx1 ?_ ?c2x1 ?c3x1 ?c4x1 ?c5x1; (case kAx1 => exact rfl); (case kFx1 => exact rfl); (case kKx1 => first | assumption | exact rfl); (case k1x1 => k_asm); (case k2x1 => k_asm); (case k3x1 => k_asm); (case k4x1 => k_asm); (case k5x1 => k_asm); (case k6x1 => k_is); (case k7x1 => k_is); (case k8x1 => ktr_room); (case k9x1 => exact BindsTo.of_eq rfl); (case c5x1 => decide); (case kBx1 => exact locs rfl); (case c2x1 => exact rfl); (case c3x1 => exact rfl); (case c4x1 => exact rfl); k_whole; intro _ _ _ _ _ _ _ _ _; (try dsimp only); (walk_at "ij lift"); (try k_fold))); (rename Fr _ _ _ _ => lFe); replace lFe : Fr _ _ _ (fun y => List.lookup y [(Str.ofString "c", _)]) := (by with_unfolding_all exact lFe); walk_at "ij hide")
  k_steps
  exact hret _ _ _ _ (by k_asm) (by k_asm) ⟨⟨_, rfl⟩, rfl⟩
theorem c_ctoi_str {w p loose mean mg mb} (news : List (Addr × Obj)) (n : Nat) (t : Tok) :
    Calls w p loose mean mg mb 76 news [.str ⟨#[n]⟩ t] 1 (fun r news' => (∃ t, r = .int n t) ∧ news' = news) := by
  unfold Calls
  k_fill
  intro dp un gd cn cs a ccd cl outer A₀ base h₀ L m s Q E B F X N T hk hdp hun hret
  refine wpAny_call ?_
  k_dflt (((refine' code_def ?k1x2 ?k2x2 ?k3x2 ?k4x2 ?k5x2 ?kAx2 ?kFx2 ?kKx2 ?k6x2 ?k7x2 ?k8x2 ?k9x2 ?kBx2 ?_ ?c2x2 ?c3x2 ?c4x2 ?c5x2; (case kAx2 => exact rfl); (case kFx2 => exact rfl); (case kKx2 => first | assumption | exact rfl); (case k1x2 => k_asm); (case k2x2 => k_asm); (case k3x2 => k_asm); (case k4x2 => k_asm); (case k5x2 => k_asm); (case k6x2 => k_is); (case k7x2 => k_is); (case k8x2 => ktr_room); (case k9x2 => exact BindsTo.of_eq rfl); (case c5x2 => decide); (case kBx2 => exact locs rfl); (case c2x2 => exact rfl); (case c3x2 => exact rfl); (case c4x2 => exact rfl); k_whole; intro _ _ _ _ _ _ _ _ _; (try dsimp only); (walk_at "ij lift"); (try k_fold))); (rename Fr _ _ _ _ => lFe); replace lFe : Fr _ _ _ (fun y => List.lookup y [(Str.ofString "c", _)]) := (by with_unfolding_all exact lFe); walk_at "ij hide")
  k_steps
  exact hret _ _ _ _ (by k_asm) (by k_asm) ⟨⟨_, rfl⟩, rfl⟩
theorem c_isprint {w p loose mean mg mb} (news : List (Addr × Obj)) (n : Int) (t : Tok) :
    Calls w p loose mean mg mb 83 news [.int n t] 2 (fun r news' => (∃ _t : Tok, r = .bool (isP n)) ∧ news' = news) := by
  unfold Calls
  k_fill
  intro dp un gd cn cs a ccd cl outer A₀ base h₀ L m s Q E B F X N T hk hdp hun hret
  refine wpAny_call ?_
  k_dflt (((refine' code_def ?k1x3 ?k2x3 ?k3x3 ?k4x3 ?k5x3 ?kAx3 ?kFx3 ?kKx3 ?k6x3 ?k7x3 ?k8x3 ?k9x3 ?kBx3 ?_ ?c2x3 ?c3x3 ?c4x3 ?c5x3; (case kAx3 => exact rfl); (case kFx3 => exact rfl); (case kKx3 => first | assumption | exact rfl); (case k1x3 => k_asm); (case k2x3 => k_asm); (case k3x3 => k_asm); (case k4x3 => k_asm); (case k5x3 => k_asm); (case k6x3 => k_is); (case k7x3 => k_is); (case k8x3 => ktr_room); (case k9x3 => exact BindsTo.of_eq rfl); (case c5x3 => decide); (case kBx3 => exact locs rfl); (case c2x3 => exact rfl); (case c3x3 => exact rfl); (case c4x3 => exact rfl); k_whole; intro _ _ _ _ _ _ _ _ _; (try dsimp only); (walk_at "ij lift"); (try k_fold))); (rename Fr _ _ _ _ => lFe); replace lFe : Fr _ _ _ (fun y => List.lookup y [(Str.ofString "c", _)]) := (by with_unfolding_all exact lFe); walk_at "ij hide")
  repeat' ((fail_if_success (with_reducible show wpAny _ _ (PySem.call (Value.ref 76) _) _ _ _)); first | (k_unfold; (try dsimp only)) | (k_end; wrow_close) | walk1 | (dsimp only; walk1) | (leave1; walk_say "STEP leave1"; try dsimp only) | fail "no step")
  (refine' calls_use (c_ctoi_int _ _ _) ?k1 ?k2 ?k3 ?k4 ?k5 ?k6 ?k7 ?k8 ?_; (case k1 => k_asm); (case k2 => k_asm); (case k3 => k_asm); (case k4 => k_asm); (case k5 => k_asm); (case k6 => first | exact rfl | assumption); (case k7 => ktr_room); (case k8 => ktr_units))
  intro r9 n9 h9 tk9 F9 N9 x9
  obtain ⟨⟨t9, e9⟩, e9'⟩ := x9
  subst e9
  rw [e9'] at N9
  clear e9'
  (try k_fold)
  k_steps
  · exact hret _ _ _ _ (by k_asm) (by k_asm) ⟨⟨t, congrArg Value.bool (isP_hi (by assumption)).symm⟩, rfl⟩
  · exact hret _ _ _ _ (by k_asm) (by k_asm) ⟨⟨t, congrArg Value.bool (isP_lo (by assumption)).symm⟩, rfl⟩
inductive CuIs : Addr → List Value → (Tok → Value) → Nat → Prop
  | int (n : Int) (t : Tok) : CuIs 76 [.int n t] (fun t => .int n t) 1
  | str (n : Nat) (t : Tok) : CuIs 76 [.str ⟨#[n]⟩ t] (fun t => .int n t) 1
  | pr (n : Int) (t : Tok) : CuIs 83 [.int n t] (fun _ => .bool (isP n)) 2
theorem cu {w p loose mean mg mb} (news : List (Addr × Obj)) {f : Addr} {vs : List Value} {V : Tok → Value} {dd : Nat} (h : CuIs f vs V dd) :
    Calls w p loose mean mg mb f news vs dd (fun r news' => (∃ t, r = V t) ∧ news' = news) := by
  cases h with
  | int n t => exact c_ctoi_int news n t
  | str n t => exact c_ctoi_str news n t
  | pr n t => exact c_isprint news n t
local macro_rules | `(tactic| walk_at "call ref") => `(tactic| (k_here; k_dflt (((refine' calls_use (cu _ (by first | exact .int _ _ | exact .str _ _ | exact .pr _ _)) (by k_asm) (by k_asm) (by k_asm) (by k_asm) (by k_asm) (by first | exact rfl | assumption) (by ktr_room) (by ktr_units) ?_)); intro r9 n9 h9 tk9 F9 N9 x9; obtain ⟨⟨t9, e9⟩, e9'⟩ := x9; subst e9; rw [e9'] at N9; clear e9'; (try k_fold))))
theorem c_unctrl_int {w p loose mean mg mb} (news : List (Addr × Obj)) (n : Int) (t : Tok) :
    Calls w p loose mean mg mb 97 news [.int n t] 3 (fun r news' => (∃ t, r = .str (tx (uText n)) t) ∧ news' = news) := by
  unfold Calls
  k_fill
  intro dp un gd cn cs a ccd cl outer A₀ base h₀ L m s Q E B F X N T hk hdp hun hret
  obtain ⟨hc1, hc2⟩ := chr_room n
  obtain ⟨hc3, hc4⟩ := and_room n
  refine wpAny_call ?_
  k_dflt (((refine' code_def ?k1x4 ?k2x4 ?k3x4 ?k4x4 ?k5x4 ?kAx4 ?kFx4 ?kKx4 ?k6x4 ?k7x4 ?k8x4 ?k9x4 ?kBx4 ?_ ?c2x4 ?c3x4 ?c4x4 ?c5x4; (case kAx4 => exact rfl); (case kFx4 => exact rfl); (case kKx4 => first | assumption | exact rfl); (case k1x4 => k_asm); (case k2x4 => k_asm); (case k3x4 => k_asm); (case k4x4 => k_asm); (case k5x4 => k_asm); (case k6x4 => k_is); (case k7x4 => k_is); (case k8x4 => ktr_room); (case k9x4 => exact BindsTo.of_eq rfl); (case c5x4 => decide); (case kBx4 => exact locs rfl); (case c2x4 => exact rfl); (case c3x4 => exact rfl); (case c4x4 => exact rfl); k_whole; intro _ _ _ _ _ _ _ _ _; (try dsimp only); (walk_at "ij lift"); (try k_fold))); (rename Fr _ _ _ _ => lFe); replace lFe : Fr _ _ _ (fun y => List.lookup y [(Str.ofString "c", _)]) := (by with_unfolding_all exact lFe); walk_at "ij hide")
  k_steps
  all_goals (refine hret _ _ _ _ (by k_asm) (by k_asm) ⟨⟨_, congrArg (Value.str · _) ?_⟩, rfl⟩; first | exact uw_a (by assumption) (by assumption) | exact uw_b (by assumption) | exact uw_1 (by assumption) (by assumption) (by assumption) | exact uw_2 (by assumption) (by assumption) (by assumption) | exact uw_3 (by assumption) (nt_f (by assumption)) (by assumption) | exact uw_4 (by assumption) (nt_f (by assumption)) (by assumption) | exact uw_3 (by assumption) (by assumption) (by assumption) | exact uw_4 (by assumption) (by assumption) (by assumption))
theorem c_unctrl_str {w p loose mean mg mb} (news : List (Addr × Obj)) (n : Nat) (t : Tok) :
    Calls w p loose mean mg mb 97 news [.str ⟨#[n]⟩ t] 3 (fun r news' => (∃ t, r = .str (tx (uText n)) t) ∧ news' = news) := by
  unfold Calls
  k_fill
  intro dp un gd cn cs a ccd cl outer A₀ base h₀ L m s Q E B F X N T hk hdp hun hret
  obtain ⟨hc1, hc2⟩ := chr_room n
  obtain ⟨hc3, hc4⟩ := and_room n
  refine wpAny_call ?_
  k_dflt (((refine' code_def ?k1x5 ?k2x5 ?k3x5 ?k4x5 ?k5x5 ?kAx5 ?kFx5 ?kKx5 ?k6x5 ?k7x5 ?k8x5 ?k9x5 ?kBx5 ?_ ?c2x5 ?c3x5 ?c4x5 ?c5x5; (case kAx5 => exact rfl); (case kFx5 => exact rfl); (case kKx5 => first | assumption | exact rfl); (case k1x5 => k_asm); (case k2x5 => k_asm); (case k3x5 => k_asm); (case k4x5 => k_asm); (case k5x5 => k_asm); (case k6x5 => k_is); (case k7x5 => k_is); (case k8x5 => ktr_room); (case k9x5 => exact BindsTo.of_eq rfl); (case c5x5 => decide); (case kBx5 => exact locs rfl); (case c2x5 => exact rfl); (case c3x5 => exact rfl); (case c4x5 => exact rfl); k_whole; intro _ _ _ _ _ _ _ _ _; (try dsimp only); (walk_at "ij lift"); (try k_fold))); (rename Fr _ _ _ _ => lFe); replace lFe : Fr _ _ _ (fun y => List.lookup y [(Str.ofString "c", _)]) := (by with_unfolding_all exact lFe); walk_at "ij hide")
  k_steps
  all_goals (refine hret _ _ _ _ (by k_asm) (by k_asm) ⟨⟨_, congrArg (Value.str · _) ?_⟩, rfl⟩; first | exact uw_a (by assumption) (by assumption) | exact uw_b (by assumption) | exact uw_1 (by assumption) (by assumption) (by assumption) | exact uw_2 (by assumption) (by assumption) (by assumption) | exact uw_3 (by assumption) (nt_f (by assumption)) (by assumption) | exact uw_4 (by assumption) (nt_f (by assumption)) (by assumption) | exact uw_3 (by assumption) (by assumption) (by assumption) | exact uw_4 (by assumption) (by assumption) (by assumption))
theorem c_alt_int {w p loose mean mg mb} (news : List (Addr × Obj)) (n : Int) (t : Tok) :
    Calls w p loose mean mg mb 90 news [.int n t] 3 (fun r news' => (∃ t, r = .int (altOf n) t) ∧ news' = news) := by
  unfold Calls
  k_fill
  intro dp un gd cn cs a ccd cl outer A₀ base h₀ L m s Q E B F X N T hk hdp hun hret
  refine wpAny_call ?_
  k_dflt (((refine' code_def ?k1x6 ?k2x6 ?k3x6 ?k4x6 ?k5x6 ?kAx6 ?kFx6 ?kKx6 ?k6x6 ?k7x6 ?k8x6 ?k9x6 ?kBx6 ?_ ?c2x6 ?c3x6 ?c4x6 ?c5x6; (case kAx6 => exact rfl); (case kFx6 => exact rfl); (case kKx6 => first | assumption | exact rfl); (case k1x6 => k_asm); (case k2x6 => k_asm); (case k3x6 => k_asm); (case k4x6 => k_asm); (case k5x6 => k_asm); (case k6x6 => k_is); (case k7x6 => k_is); (case k8x6 => ktr_room); (case k9x6 => exact BindsTo.of_eq rfl); (case c5x6 => decide); (case kBx6 => exact locs rfl); (case c2x6 => exact rfl); (case c3x6 => exact rfl); (case c4x6 => exact rfl); k_whole; intro _ _ _ _ _ _ _ _ _; (try dsimp only); (walk_at "ij lift"); (try k_fold))); (rename Fr _ _ _ _ => lFe); replace lFe : Fr _ _ _ (fun y => List.lookup y [(Str.ofString "c", _)]) := (by with_unfolding_all exact lFe); walk_at "ij hide")
  k_steps
  exact hret _ _ _ _ (by k_asm) (by k_asm) ⟨⟨_, congrArg (Value.int · _) (or128 n)⟩, rfl⟩
theorem c_alt_str {w p loose mean mg mb} (news : List (Addr × Obj)) (n : Nat) (t : Tok) (hn : n < 2048) :
    Calls w p loose mean mg mb 90 news [.str ⟨#[n]⟩ t] 3 (fun r news' => (∃ t, r = .str ⟨#[(altOf n).toNat]⟩ t) ∧ news' = news) := by
  unfold Calls
  k_fill
  intro dp un gd cn cs a ccd cl outer A₀ base h₀ L m s Q E B F X N T hk hdp hun hret
  have hc1 : 0 ≤ Builtin.bitOr n 128 ∧ Builtin.bitOr n 128 ≤ 4096 := by rw [or128]; unfold altOf; split <;> omega
  obtain ⟨hc1, hc2⟩ := hc1
  refine wpAny_call ?_
  k_dflt (((refine' code_def ?k1x7 ?k2x7 ?k3x7 ?k4x7 ?k5x7 ?kAx7 ?kFx7 ?kKx7 ?k6x7 ?k7x7 ?k8x7 ?k9x7 ?kBx7 ?_ ?c2x7 ?c3x7 ?c4x7 ?c5x7; (case kAx7 => exact rfl); (case kFx7 => exact rfl); (case kKx7 => first | assumption | exact rfl); (case k1x7 => k_asm); (case k2x7 => k_asm); (case k3x7 => k_asm); (case k4x7 => k_asm); (case k5x7 => k_asm); (case k6x7 => k_is); (case k7x7 => k_is); (case k8x7 => ktr_room); (case k9x7 => exact BindsTo.of_eq rfl); (case c5x7 => decide); (case kBx7 => exact locs rfl); (case c2x7 => exact rfl); (case c3x7 => exact rfl); (case c4x7 => exact rfl); k_whole; intro _ _ _ _ _ _ _ _ _; (try dsimp only); (walk_at "ij lift"); (try k_fold))); (rename Fr _ _ _ _ => lFe); replace lFe : Fr _ _ _ (fun y => List.lookup y [(Str.ofString "c", _)]) := (by with_unfolding_all exact lFe); walk_at "ij hide")
  k_steps
  exact hret _ _ _ _ (by k_asm) (by k_asm) ⟨⟨_, congrArg (Value.str · _) (by rw [or128])⟩, rfl⟩
end
section
open PySem PySem.W PyProof.Rows PySem.Spec PySem.Calls
theorem us_a {n : Int} (h : n = 127) : uSigns n = [94, 63] := by rw [uSigns, if_pos h]
theorem us_b {n : Int} (h : n ≠ 127) (h2 : n.fmod 128 = 127) : uSigns n = [94, 159] := by
  rw [Int.fmod_eq_emod_of_nonneg _ (by decide)] at h2
  rw [uSigns, if_neg h, if_neg (by omega), if_pos h2]
theorem us_c {n : Int} {t t' : Tok} (h : n ≠ 127) (h3 : n.fmod 128 < 32) : IntsAre [.int 94 t, .int (n.fmod 128 + 64) t'] ((uSigns n).map fun (k : Nat) => (k : Int)) := by
  rw [Int.fmod_eq_emod_of_nonneg _ (by decide)] at *
  have e : ((((n % 128).toNat + 64 : Nat)) : Int) = n % 128 + 64 := by omega
  rw [uSigns, if_neg h, if_pos h3, List.map_cons, List.map_cons, List.map_nil, e]
  exact .cons _ _ (.cons _ _ .nil)
theorem us_d {n : Int} {t : Tok} (h : n ≠ 127) (h2 : n.fmod 128 ≠ 127) (h3 : ¬ n.fmod 128 < 32) : IntsAre [.int (n.fmod 128) t] ((uSigns n).map fun (k : Nat) => (k : Int)) := by
  rw [Int.fmod_eq_emod_of_nonneg _ (by decide)] at *
  have e : ((((n % 128).toNat : Nat)) : Int) = n % 128 := by omega
  rw [uSigns, if_neg h, if_neg h3, if_neg h2, List.map_cons, List.map_nil, e]
  exact .cons _ _ .nil
theorem c_signs {w p loose mean mg mb} (news : List (Addr × Obj)) (n : Int) (t : Tok) :
    Calls w p loose mean mg mb 104 news [.int n t] 1 (fun r news' => ∃ l vs, r = .ref l ∧ news' = (l, listOf vs.toArray 0) :: news ∧ IntsAre vs ((uSigns n).map fun (k : Nat) => (k : Int))) := by
  unfold Calls
  k_fill
  intro dp un gd cn cs a ccd cl outer A₀ base h₀ L m s Q E B F X N T hk hdp hun hret
  refine wpAny_call ?_
  k_dflt (((refine' code_def ?k1x8 ?k2x8 ?k3x8 ?k4x8 ?k5x8 ?kAx8 ?kFx8 ?kKx8 ?k6x8 ?k7x8 ?k8x8 ?k9x8 ?kBx8 ?_ ?c2x8 ?c3x8 ?c4x8 ?c5x8; (case kAx8 => exact rfl); (case kFx8 => exact rfl); (case kKx8 => first | assumption | exact rfl); (case k1x8 => k_asm); (case k2x8 => k_asm); (case k3x8 => k_asm); (case k4x8 => k_asm); (case k5x8 => k_asm); (case k6x8 => k_is); (case k7x8 => k_is); (case k8x8 => ktr_room); (case k9x8 => exact BindsTo.of_eq rfl); (case c5x8 => decide); (case kBx8 => exact locs rfl); (case c2x8 => exact rfl); (case c3x8 => exact rfl); (case c4x8 => exact rfl); k_whole; intro _ _ _ _ _ _ _ _ _; (try dsimp only); (walk_at "ij lift"); (try k_fold))); (rename Fr _ _ _ _ => lFe); replace lFe : Fr _ _ _ (fun y => List.lookup y [(Str.ofString "n", _)]) := (by with_unfolding_all exact lFe); walk_at "ij hide")
  k_steps
  · exact hret _ _ _ _ (by k_asm) (by k_asm) ⟨_, [_, _], rfl, rfl, by rw [us_a (by assumption)]; exact .cons _ _ (.cons _ _ .nil)⟩
  · exact hret _ _ _ _ (by k_asm) (by k_asm) ⟨_, [_, _], rfl, rfl, by rw [us_b (by assumption) (by assumption)]; exact .cons _ _ (.cons _ _ .nil)⟩
  · exact hret _ _ _ _ (by k_asm) (by k_asm) ⟨_, [_, _], rfl, rfl, us_c (by assumption) (by assumption)⟩
  · exact hret _ _ _ _ (by k_asm) (by k_asm) ⟨_, [_], rfl, rfl, us_d (by assumption) (by assumption) (by assumption)⟩
end
section
open PySem PySem.W PyProof.Rows PySem.Spec PySem.Calls
structure DueS where
  done : List Pc
  k : Int
  d : Addr
  vs : List Value
  n : Nat
  tk : Tok
  tl : List (Addr × Obj)
noncomputable def DueInv (news : List (Addr × Obj)) (row : List Int) (c : DueS) : Prop :=
  c.done ++ dueFrom (row.drop c.k.toNat) = dueFrom row ∧ 0 ≤ c.k ∧ c.k ≤ row.length ∧ DatAll c.tl c.vs (c.done.map pcD) ∧ (∀ p ∈ news, p ∈ c.tl) ∧ c.done.length ≤ 2 * c.k.toNat
theorem us_len {n : Int} {vs : List Value} (h : IntsAre vs ((uSigns n).map fun (k : Nat) => (k : Int))) : vs.length ≤ 2 := by
  have e := h.length
  rw [List.length_map] at e
  have : (uSigns n).length ≤ 2 := by unfold uSigns; (repeat' split) <;> simp
  omega
local macro_rules | `(tactic| walk_at "ij memr") => `(tactic| first | with_reducible exact List.Mem.head _ | (with_reducible refine List.Mem.tail _ ?_; walk_at "ij memr"))
local macro_rules | `(tactic| k_mem) => `(tactic| walk_at "ij memr")
local macro_rules | `(tactic| size_fits) => `(tactic| ((try simp only [PySem.sizeLine_eq, List.size_toArray, List.length_cons, List.length_append, List.length_nil]); omega))
theorem ne_tt {b : Bool} (h : b = false) : ¬ b = true := by rw [h]; exact Bool.false_ne_true
theorem ne_l1 {z a : Str} {r : List Str} (h : (a :: r).contains z = false) : ¬ z = a ∧ r.contains z = false := by
  simpa [List.contains_cons, Bool.or_eq_false_iff] using h
theorem ne_p1 {z : Str} {p : Str × Value} {r : List (Str × Value)} (h : ∀ q ∈ p :: r, z ≠ q.1) : ¬ z = p.1 ∧ ∀ q ∈ r, z ≠ q.1 := ⟨h p (.head _), fun q hq => h q (.tail _ hq)⟩
local macro_rules | `(tactic| walk_at "call ref") => `(tactic| (k_here; k_dflt ((((refine' calls_use (c_signs _ _ _) (by k_asm) (by k_asm) (by k_asm) (by k_asm) (by k_asm) (by first | exact rfl | assumption) (by ktr_room) (by ktr_units) ?_); intro r9 n9 h9 tk9 F9 N9 x9; obtain ⟨l9, vs9, e9, e9', hi9⟩ := x9; subst e9 e9'; have len9 := us_len hi9)); (try k_fold))))
local macro_rules | `(tactic| walk_at "binaryOp Add ref ref") => `(tactic| (k_here; k_dflt (refine' ij_add (by k_asm) (by k_asm) (by k_mem) (by k_mem) (by ((try simp only [List.length_cons, List.length_nil, List.length_append]); omega)) ?_; intro D' h' F' N' l1; (try k_lt l1))))
section
variable {h₀ : Heap} {L lr D : Addr} {s : Shared} {rvs vs ws : List Value} {rn : Nat} {news rest tl : List (Addr × Obj)} {row : List Int} {m₀ m' : Str → Option Value} {Q : Flow → Shared → Prop} {done : List Pc} {k : Int} {d : Addr} {n : Nat} {tkk tk' : Tok} {h' : Heap} {tk : Nat}
theorem due_end (new : List Pc) (k' : Int) (N : News h₀ L h' ((D, listOf (vs ++ ws).toArray 0) :: rest)) (F : Fr h₀ L h' m')
    (i1 : done ++ dueFrom (row.drop k.toNat) = dueFrom row) (i2 : 0 ≤ k) (i4 : DatAll tl vs (done.map pcD)) (i5 : ∀ p ∈ news, p ∈ tl) (i6 : done.length ≤ 2 * k.toNat)
    (step : dueFrom (row.drop k.toNat) = new ++ dueFrom (row.drop k'.toNat)) (hk : k < k') (hk2 : k' ≤ row.length) (hl : new.length ≤ 2 * (k' - k).toNat)
    (hr0 : (lr, listOf rvs.toArray rn) ∈ rest) (hsub : ∀ p ∈ tl, p ∈ rest) (hd : DatAll rest ws (new.map pcD))
    (hm1 : m' (Str.ofString "due") = some (.ref D)) (hm2 : m' (Str.ofString "k") = some (.int k' tk'))
    (hm3 : ∀ z, (∀ p ∈ [(Str.ofString "due", Value.ref D), (Str.ofString "k", Value.int k' tk')], z ≠ p.1) → [Str.ofString "n", Str.ofString "barred", Str.ofString "signs", Str.ofString "shut"].contains z = false → m' z = m₀ z) :
    IjPost h₀ L s (fun (c : DueS) => (c.d, listOf c.vs.toArray c.n) :: (lr, listOf rvs.toArray rn) :: c.tl) (fun c => [(Str.ofString "due", .ref c.d), (Str.ofString "k", .int c.k c.tk)]) (DueInv news row) [Str.ofString "n", Str.ofString "barred", Str.ofString "signs", Str.ofString "shut"] m₀ (fun c => row.length - c.k.toNat) Q
      ⟨done, k, d, vs, n, tkk, tl⟩ .next { s with heap := h', toks := tk } := by
  refine ij_end ⟨done ++ new, k', D, vs ++ ws, 0, tk', rest⟩ F N (fun p hp => ?_) (fun p hp => ?_) hm3 ⟨?_, ?_, hk2, ?_, fun p hp => hsub p (i5 p hp), ?_⟩ ?_
  · rcases List.mem_cons.mp hp with rfl | hp
    · exact .head _
    rcases List.mem_cons.mp hp with rfl | hp
    · exact .tail _ hr0
    exact .tail _ hp
  · rcases List.mem_cons.mp hp with rfl | hp
    · exact hm1
    rcases List.mem_cons.mp hp with rfl | hp
    · exact hm2
    cases hp
  · show (done ++ new) ++ dueFrom (row.drop k'.toNat) = dueFrom row
    rw [List.append_assoc, ← step, i1]
  · show 0 ≤ k'; omega
  · show DatAll rest (vs ++ ws) ((done ++ new).map pcD)
    rw [List.map_append]
    exact (i4.mono hsub).append hd
  · show (done ++ new).length ≤ 2 * k'.toNat
    rw [List.length_append]; omega
  · show row.length - k'.toNat < row.length - k.toNat
    omega
end
noncomputable def CutG (Q : Flow → Shared → Prop) (P : Shared → Prop) (f : Flow) (s₂ : Shared) : Prop :=
  match f with
  | .next => P s₂
  | f => Q f s₂
section
variable {prog : Program} {w : World} {A : Around} {E : Value → Shared → Prop} {Q : Flow → Shared → Prop} {s : Shared} {env : Env} {h₀ : Heap} {L : Addr}
noncomputable def CutAt {σ : Type} (h₀ : Heap) (L : Addr) (s : Shared) (Led : σ → List (Addr × Obj)) (ps : σ → List (Str × Value)) (Inv : σ → Prop) (stored : List Str) (m₀ : Str → Option Value) (s₂ : Shared) : Prop :=
  ∃ (c' : σ) (h' : Heap) (tk : Nat) (m' : Str → Option Value) (news' : List (Addr × Obj)), s₂ = { s with heap := h', toks := tk } ∧ Fr h₀ L h' m' ∧ News h₀ L h' news' ∧ (∀ p ∈ Led c', p ∈ news') ∧ Inv c' ∧ (∀ p ∈ ps c', m' p.1 = some p.2) ∧ (∀ z, (∀ p ∈ ps c', z ≠ p.1) → stored.contains z = false → m' z = m₀ z)
theorem cut_at {σ : Type} {Led : σ → List (Addr × Obj)} {ps : σ → List (Str × Value)} {Inv : σ → Prop} {stored : List Str} {m₀ m' : Str → Option Value} {h' : Heap} {tk : Nat} {news' : List (Addr × Obj)} (c' : σ)
    (F : Fr h₀ L h' m') (N : News h₀ L h' news') (hn : ∀ p ∈ Led c', p ∈ news') (hi : Inv c') (hk : ∀ p ∈ ps c', m' p.1 = some p.2) (hr : ∀ z, (∀ p ∈ ps c', z ≠ p.1) → stored.contains z = false → m' z = m₀ z) :
    CutG Q (CutAt h₀ L s Led ps Inv stored m₀) .next { s with heap := h', toks := tk } := ⟨c', h', tk, m', news', rfl, F, N, hn, hi, hk, hr⟩
theorem cut_if {σ : Type} {st : Stmt} {m₀ : Str → Option Value} (Led : σ → List (Addr × Obj)) (ps : σ → List (Str × Value)) (Inv : σ → Prop) (stored : List Str)
    (_F : Fr h₀ L s.heap m₀) (walk : wpAny (model prog w) A (exec st env) (CutG Q (CutAt h₀ L s Led ps Inv stored m₀)) E s)
    (cont : ∀ (c : σ) (u : Str → Option Value) h tk, Inv c → Fr h₀ L h (kstB (fun z => if stored.contains z then u z else m₀ z) (ps c)) → News h₀ L h (Led c) → Q .next { s with heap := h, toks := tk }) :
    wpAny (model prog w) A (exec st env) Q E s := by
  refine wpAny_mono walk (fun f s₂ h => ?_) fun _ _ x => x
  cases f with
  | next =>
    obtain ⟨c', h', tk', m', news', rfl, F', N', hn, hi, hk9, hr9⟩ := h
    exact cont c' m' h' tk' hi (ksw_fr (stored := stored) (m₀ := m₀) hk9 hr9 F') fun p hp => N' p (hn p hp)
  | cont => exact h
  | brk => exact h
  | ret v => exact h
theorem cut_ifN {σ : Type} {st : Stmt} {m₀ : Str → Option Value} {Led : List (Addr × Obj)} (ps : σ → List (Str × Value)) (Inv : σ → Prop) (stored : List Str)
    (F : Fr h₀ L s.heap m₀) (_N : News h₀ L s.heap Led) (walk : wpAny (model prog w) A (exec st env) (CutG Q (CutAt h₀ L s (fun _ : σ => Led) ps Inv stored m₀)) E s)
    (cont : ∀ (c : σ) (u : Str → Option Value) h tk, Inv c → Fr h₀ L h (kstB (fun z => if stored.contains z then u z else m₀ z) (ps c)) → News h₀ L h Led → Q .next { s with heap := h, toks := tk }) :
    wpAny (model prog w) A (exec st env) Q E s := cut_if (fun _ => Led) ps Inv stored F walk cont
end
structure D2S where
  n : Int
  nt : Tok
  bar : Bool
  l : Addr
  svs : List Value
  sg : List Nat
  sh : Addr
  two : Bool
  t1 : Tok
  t2 : Tok
  k : Int
  tk : Tok
noncomputable def tupO : Bool → Tok → Tok → Obj
  | true, t1, t2 => { cls := .type "tuple", data := .seq #[.int 29 t1, .int 93 t2] }
  | false, t1, _ => { cls := .type "tuple", data := .seq #[.int 29 t1] }
noncomputable def D2Inv (row : List Int) (k : Int) (c : D2S) : Prop :=
  k < c.k ∧ c.k ≤ row.length ∧ IntsAre c.svs (c.sg.map fun (k : Nat) => (k : Int)) ∧ c.svs.length ≤ 3 ∧
  ((((if c.two then [29, 93] else [29]) : List Int).any fun x => x == c.n.fmod 128) = true → dueFrom (row.drop k.toNat) = [(c.bar, (c.sg ++ uSigns c.n).dropLast), (false, [93])] ++ dueFrom (row.drop c.k.toNat)) ∧
  ((((if c.two then [29, 93] else [29]) : List Int).any fun x => x == c.n.fmod 128) = false → dueFrom (row.drop k.toNat) = [(c.bar, c.sg ++ uSigns c.n)] ++ dueFrom (row.drop c.k.toNat))
theorem cut5 {m' : Str → Option Value} {n k : Int} {nt tk : Tok} {bar : Bool} {l sh : Addr} (h1 : m' (Str.ofString "n") = some (.int n nt)) (h2 : m' (Str.ofString "barred") = some (.bool bar)) (h3 : m' (Str.ofString "signs") = some (.ref l)) (h4 : m' (Str.ofString "shut") = some (.ref sh)) (h5 : m' (Str.ofString "k") = some (.int k tk)) :
    ∀ p ∈ [(Str.ofString "n", Value.int n nt), (Str.ofString "barred", .bool bar), (Str.ofString "signs", .ref l), (Str.ofString "shut", .ref sh), (Str.ofString "k", .int k tk)], m' p.1 = some p.2 := by
  intro p hp
  simp only [List.mem_cons, List.not_mem_nil, or_false] at hp
  rcases hp with rfl | rfl | rfl | rfl | rfl <;> assumption
theorem ints_app {a b : List Value} {x y : List Nat} (h : IntsAre a (x.map fun (k : Nat) => (k : Int))) (h' : IntsAre b (y.map fun (k : Nat) => (k : Int))) : IntsAre (a ++ b) ((x ++ y).map fun (k : Nat) => (k : Int)) := by
  rw [List.map_append]; exact h.append h'
theorem d2inv {row : List Int} {k : Int} {c : D2S} (a : k < c.k) (b : c.k ≤ row.length) (d : IntsAre c.svs (c.sg.map fun (k : Nat) => (k : Int))) (e : c.svs.length ≤ 3)
    (f : (((if c.two then [29, 93] else [29]) : List Int).any fun x => x == c.n.fmod 128) = true → dueFrom (row.drop k.toNat) = [(c.bar, (c.sg ++ uSigns c.n).dropLast), (false, [93])] ++ dueFrom (row.drop c.k.toNat))
    (g : (((if c.two then [29, 93] else [29]) : List Int).any fun x => x == c.n.fmod 128) = false → dueFrom (row.drop k.toNat) = [(c.bar, c.sg ++ uSigns c.n)] ++ dueFrom (row.drop c.k.toNat)) : D2Inv row k c := ⟨a, b, d, e, f, g⟩
theorem ints_drop2 {ws : List Value} {a b : List Nat} (h : IntsAre ws (List.take ((a.map (fun (k : Nat) => (k : Int)) ++ b.map fun (k : Nat) => (k : Int)).length - 1) (a.map (fun (k : Nat) => (k : Int)) ++ b.map fun (k : Nat) => (k : Int)))) : IntsAre ws ((a ++ b).dropLast.map fun (k : Nat) => (k : Int)) := ints_drop h (by rw [List.map_append])
theorem tup1 {h₀ h : Heap} {L a b c sh : Addr} {o1 o2 o3 : Obj} {t1 t2 : Tok} {tl : List (Addr × Obj)} (N : News h₀ L h ((a, o1) :: (b, o2) :: (c, o3) :: (sh, tupO true t1 t2) :: tl)) :
    News h₀ L h ((a, o1) :: (b, o2) :: (c, o3) :: (sh, { cls := .type "tuple", data := .seq #[.int 29 t1, .int 93 t2] }) :: tl) := N
theorem tup0 {h₀ h : Heap} {L a b c sh : Addr} {o1 o2 o3 : Obj} {t1 t2 : Tok} {tl : List (Addr × Obj)} (N : News h₀ L h ((a, o1) :: (b, o2) :: (c, o3) :: (sh, tupO false t1 t2) :: tl)) :
    News h₀ L h ((a, o1) :: (b, o2) :: (c, o3) :: (sh, { cls := .type "tuple", data := .seq #[.int 29 t1] }) :: tl) := N
theorem c_due {w p loose mean mg mb} (news : List (Addr × Obj)) (lr : Addr) (rvs : List Value) (row : List Int) (rn : Nat) (hm : (lr, listOf rvs.toArray rn) ∈ news) (hI : IntsAre rvs row) (hlen : row.length ≤ 8) :
    Calls w p loose mean mg mb 111 news [.ref lr] 4 (fun r news' => DatIn news' r (pcsD (dueFrom row)) ∧ ∀ p ∈ news, p ∈ news') := by
  unfold Calls
  k_fill
  intro dp un gd cn cs a ccd cl outer A₀ base h₀ L m s Q E B F X N T hk hdp hun hret
  refine wpAny_call ?_
  k_dflt (((refine' code_def ?k1x10 ?k2x10 ?k3x10 ?k4x10 ?k5x10 ?kAx10 ?kFx10 ?kKx10 ?k6x10 ?k7x10 ?k8x10 ?k9x10 ?kBx10 ?_ ?c2x10 ?c3x10 ?c4x10 ?c5x10; (case kAx10 => exact rfl); (case kFx10 => exact rfl); (case kKx10 => first | assumption | exact rfl); (case k1x10 => k_asm); (case k2x10 => k_asm); (case k3x10 => k_asm); (case k4x10 => k_asm); (case k5x10 => k_asm); (case k6x10 => k_is); (case k7x10 => k_is); (case k8x10 => ktr_room); (case k9x10 => exact BindsTo.of_eq rfl); (case c5x10 => decide); (case kBx10 => exact locs rfl); (case c2x10 => exact rfl); (case c3x10 => exact rfl); (case c4x10 => exact rfl); k_whole; intro _ _ _ _ _ _ _ _ _; (try dsimp only); (walk_at "ij lift"); (try k_fold))); (rename Fr _ _ _ _ => lFe); replace lFe : Fr _ _ _ (fun y => List.lookup y [(Str.ofString "row", _)]) := (by with_unfolding_all exact lFe); walk_at "ij hide")
  (repeat' ((fail_if_success (with_reducible show wpAny _ _ (PySem.exec (PySem.Stmt.While _ _ _ _) _) _ _ _)); first | (k_unfold; (try dsimp only)) | (k_end; wrow_close) | walk1 | (dsimp only; walk1) | (leave1; walk_say "STEP leave1"; try dsimp only) | fail "no step"))
  (rename Fr _ _ _ _ => lF'); (rename News _ _ _ _ => lN')
  rename_i l0 hA l1a D0 hB l1b hC hD hE
  refine' ij_while (hE := by passes_own) (σ := DueS) (fun c => (c.d, listOf c.vs.toArray c.n) :: (lr, listOf rvs.toArray rn) :: c.tl) (fun c => [(Str.ofString "due", .ref c.d), (Str.ofString "k", .int c.k c.tk)]) (DueInv news row) [Str.ofString "n", Str.ofString "barred", Str.ofString "signs", Str.ofString "shut"] (fun c => row.length - c.k.toNat)
    ⟨[], 0, l0, [], 0, ?tk00, news⟩ lF' lN' ?hn ?hkk ?hp ?turn
  case hkk => kst_all
  case hn =>
    intro p hp
    rcases List.mem_cons.mp hp with rfl | hp
    · exact .tail _ (.head _)
    rcases List.mem_cons.mp hp with rfl | hp
    · exact .tail _ (.tail _ hm)
    exact .tail _ (.tail _ hp)
  case hp => exact ⟨rfl, Int.le_refl _, by simp, .nil, fun _ h => h, by simp⟩
  clear lF' lN'
  rintro ⟨done, k, d, vs, n, tkk, tl⟩ u h9 tk9 ⟨i1, i2, i3, i4, i5, i6⟩ F9 N9
  have i7 : vs.length ≤ 16 := by have e := i4.length; rw [List.length_map] at e; dsimp only at i6 e i3 i2; omega
  dsimp only at i1 i2 i3 i4 i5 i6 F9 N9
  all_goals (try k_fold)
  (repeat' ((fail_if_success (with_reducible show wpAny _ _ (PySem.exec (PySem.Stmt.If _ _ _ _) _) _ _ _)); first | (k_unfold; (try dsimp only)) | (k_end; wrow_close) | walk1 | (dsimp only; walk1) | (leave1; walk_say "STEP leave1"; try dsimp only) | fail "no step"))
  · (rename Fr _ _ _ _ => lF2); (rename News _ _ _ _ => lN2)
    rename_i hkl _ _ _ _ _ _ _ _ _ _ _ _ _ _ _ _ _ _ _
    refine cut_ifN (σ := Unit) (fun _ => []) (fun _ => ¬ ((row.getD k.toNat 0).fmod 256 = 33 ∧ k + 1 = row.length)) [] lF2 lN2 ?walk1 ?cont1
    case walk1 =>
      (repeat' ((fail_if_success (with_reducible show wpAny _ _ (PySem.exec (PySem.Stmt.While _ _ _ _) _) _ _ _)); first | (k_unfold; (try dsimp only)) | (k_end; wrow_close) | walk1 | (dsimp only; walk1) | (leave1; walk_say "STEP leave1"; try dsimp only) | fail "no step"))
      · dsimp only [CutG, IjPost]
        (repeat' ((fail_if_success (with_reducible show wpAny _ _ (PySem.exec (PySem.Stmt.While _ _ _ _) _) _ _ _)); first | (k_unfold; (try dsimp only)) | (k_end; wrow_close) | walk1 | (dsimp only; walk1) | (leave1; walk_say "STEP leave1"; try dsimp only) | fail "no step"))
        refine hret _ _ _ _ (by k_asm) (by k_asm) ⟨?_, ?_⟩
        · have e : dueFrom row = done ++ [(false, [91]), (false, [33]), (false, [93])] := by rw [← i1, due_last i2 (by assumption) (by assumption) (by assumption)]
          rw [e, pcsD, List.map_append]
          refine .list (List.Mem.head _) (DatAll.append (i4.mono ?_) (.cons (dat_pc (by k_mem) (by k_mem) (by (first | exact .cons _ _ .nil | exact ints_drop (by assumption) (by simp) | exact IntsAre.append (.cons _ _ (.cons _ _ (.cons _ _ .nil))) (by assumption) | exact IntsAre.append (.cons _ _ (.cons _ _ .nil)) (by assumption) | assumption | (simp only [List.map_append, List.map_cons, List.map_nil]; first | exact IntsAre.append (.cons _ _ (.cons _ _ (.cons _ _ .nil))) (by assumption) | exact IntsAre.append (.cons _ _ (.cons _ _ .nil)) (by assumption))))) (.cons (dat_pc (by k_mem) (by k_mem) (by (first | exact .cons _ _ .nil | exact ints_drop (by assumption) (by simp) | exact IntsAre.append (.cons _ _ (.cons _ _ (.cons _ _ .nil))) (by assumption) | exact IntsAre.append (.cons _ _ (.cons _ _ .nil)) (by assumption) | assumption | (simp only [List.map_append, List.map_cons, List.map_nil]; first | exact IntsAre.append (.cons _ _ (.cons _ _ (.cons _ _ .nil))) (by assumption) | exact IntsAre.append (.cons _ _ (.cons _ _ .nil)) (by assumption))))) (.one (dat_pc (by k_mem) (by k_mem) (by (first | exact .cons _ _ .nil | exact ints_drop (by assumption) (by simp) | exact IntsAre.append (.cons _ _ (.cons _ _ (.cons _ _ .nil))) (by assumption) | exact IntsAre.append (.cons _ _ (.cons _ _ .nil)) (by assumption) | assumption | (simp only [List.map_append, List.map_cons, List.map_nil]; first | exact IntsAre.append (.cons _ _ (.cons _ _ (.cons _ _ .nil))) (by assumption) | exact IntsAre.append (.cons _ _ (.cons _ _ .nil)) (by assumption)))))))))
          intro p hp; repeat' (first | exact hp | refine List.mem_cons_of_mem _ ?_)
        · intro p hp; have hp := i5 p hp; repeat' (first | exact hp | refine List.mem_cons_of_mem _ ?_)
      all_goals
        refine' cut_at () ?F50 ?N50 ?n50 ?i50 ?k50 ?r50
        case F50 => k_asm
        case N50 => k_asm
        case n50 => (intro p hp; repeat' (first | exact hp | refine List.mem_cons_of_mem _ ?_))
        case i50 => first | exact fun e => absurd e.1 (by assumption) | exact fun e => absurd e.2 (by assumption)
        case k50 => exact fun p hp => nomatch hp
        case r50 => exact fun _ _ _ => rfl
    clear lF2 lN2
    rintro ⟨⟩ u31 h31 tk31 hno F31 N31
    (repeat' ((fail_if_success (with_reducible show wpAny _ _ (PySem.exec (PySem.Stmt.If _ _ _ _) _) _ _ _)); first | (k_unfold; (try dsimp only)) | (k_end; wrow_close) | walk1 | (dsimp only; walk1) | (leave1; walk_say "STEP leave1"; try dsimp only) | fail "no step"))
    (rename Fr _ _ _ _ => lF2); (rename News _ _ _ _ => lN2)
    refine cut_if (σ := D2S) (fun c => (c.l, listOf c.svs.toArray 0) :: (c.sh, tupO c.two c.t1 c.t2) :: (d, listOf vs.toArray n) :: (lr, listOf rvs.toArray rn) :: tl)
      (fun c => [(Str.ofString "n", Value.int c.n c.nt), (Str.ofString "barred", .bool c.bar), (Str.ofString "signs", .ref c.l), (Str.ofString "shut", .ref c.sh), (Str.ofString "k", .int c.k c.tk)]) (D2Inv row k) [] lF2 ?walk2 ?cont2
    case walk2 =>
      (repeat' ((fail_if_success (with_reducible show wpAny _ _ (PySem.exec (PySem.Stmt.While _ _ _ _) _) _ _ _)); first | (k_unfold; (try dsimp only)) | (k_end; wrow_close) | walk1 | (dsimp only; walk1) | (leave1; walk_say "STEP leave1"; try dsimp only) | fail "no step"))
      · refine' cut_at ⟨row.getD (k + 1).toNat 0, _, true, _, _, [93, 91, 33], _, true, _, _, k + 1 + 1, _⟩ ?F51 ?N51 ?n51 ?i51 (cut5 ?h11 ?h21 ?h31 ?h41 ?h51) ?r51
        case F51 => k_asm
        case N51 => k_asm
        case h11 => exact rfl
        case h21 => exact rfl
        case h31 => exact rfl
        case h41 => exact rfl
        case h51 => exact rfl
        case n51 =>
          refine List.forall_mem_cons.mpr ⟨?_, List.forall_mem_cons.mpr ⟨?_, fun p hp => ?_⟩⟩
          · refine List.mem_cons_of_mem _ (List.mem_cons_of_mem _ ?_)
            exact List.Mem.head _
          · exact .head _
          · repeat' (first | exact hp | refine List.mem_cons_of_mem _ ?_)
        case i51 => exact d2inv (by dsimp only; omega) (by dsimp only; omega) (by (first | exact .cons _ _ (.cons _ _ (.cons _ _ .nil)) | exact .cons _ _ (.cons _ _ .nil) | exact .nil)) (Nat.le_refl 3) (fun h => two_a i2 hkl (by assumption) (fun e => hno ⟨by assumption, e⟩) (by assumption) h) (fun h => two_b i2 hkl (by assumption) (fun e => hno ⟨by assumption, e⟩) (by assumption) h)
        case r51 => ((intro z h2 h3; have h2' := h2; have h3' := h3; replace h2' := ne_p1 h2'; obtain ⟨_, h2'⟩ := h2'; replace h2' := ne_p1 h2'; obtain ⟨_, h2'⟩ := h2'; replace h2' := ne_p1 h2'; obtain ⟨_, h2'⟩ := h2'; replace h2' := ne_p1 h2'; obtain ⟨_, h2'⟩ := h2'; replace h2' := ne_p1 h2'; obtain ⟨_, h2'⟩ := h2'; clear h2' h3'; repeat' (first | with_reducible exact rfl | refine (if_neg (by with_reducible assumption)).trans ?_ | refine (if_neg (ne_tt h3)).trans ?_)))
      · refine' cut_at ⟨row.getD (k + 1).toNat 0, _, true, _, _, [93, 91], _, true, _, _, k + 1 + 1, _⟩ ?F52 ?N52 ?n52 ?i52 (cut5 ?h12 ?h22 ?h32 ?h42 ?h52) ?r52
        case F52 => k_asm
        case N52 => k_asm
        case h12 => exact rfl
        case h22 => exact rfl
        case h32 => exact rfl
        case h42 => exact rfl
        case h52 => exact rfl
        case n52 =>
          refine List.forall_mem_cons.mpr ⟨?_, List.forall_mem_cons.mpr ⟨?_, fun p hp => ?_⟩⟩
          · refine List.mem_cons_of_mem _ (List.mem_cons_of_mem _ ?_)
            exact List.Mem.head _
          · exact .head _
          · repeat' (first | exact hp | refine List.mem_cons_of_mem _ ?_)
        case i52 => exact d2inv (by dsimp only; omega) (by dsimp only; omega) (by (first | exact .cons _ _ (.cons _ _ (.cons _ _ .nil)) | exact .cons _ _ (.cons _ _ .nil) | exact .nil)) (Nat.le_succ 2) (fun h => two_c i2 hkl (by assumption) (fun e => hno ⟨by assumption, e⟩) (by assumption) h) (fun h => two_d i2 hkl (by assumption) (fun e => hno ⟨by assumption, e⟩) (by assumption) h)
        case r52 => ((intro z h2 h3; have h2' := h2; have h3' := h3; replace h2' := ne_p1 h2'; obtain ⟨_, h2'⟩ := h2'; replace h2' := ne_p1 h2'; obtain ⟨_, h2'⟩ := h2'; replace h2' := ne_p1 h2'; obtain ⟨_, h2'⟩ := h2'; replace h2' := ne_p1 h2'; obtain ⟨_, h2'⟩ := h2'; replace h2' := ne_p1 h2'; obtain ⟨_, h2'⟩ := h2'; clear h2' h3'; repeat' (first | with_reducible exact rfl | refine (if_neg (by with_reducible assumption)).trans ?_ | refine (if_neg (ne_tt h3)).trans ?_)))
      · refine' cut_at ⟨row.getD k.toNat 0, _, ((row.getD k.toNat 0).fdiv 128).fmod 2 == 1, _, _, [], _, false, _, 0, k + 1, _⟩ ?F53 ?N53 ?n53 ?i53 (cut5 ?h13 ?h23 ?h33 ?h43 ?h53) ?r53
        case F53 => k_asm
        case N53 => k_asm
        case h13 => exact rfl
        case h23 => exact rfl
        case h33 => exact rfl
        case h43 => exact rfl
        case h53 => exact rfl
        case n53 =>
          refine List.forall_mem_cons.mpr ⟨?_, List.forall_mem_cons.mpr ⟨?_, fun p hp => ?_⟩⟩
          · refine List.mem_cons_of_mem _ (List.mem_cons_of_mem _ ?_)
            exact List.Mem.head _
          · exact .head _
          · repeat' (first | exact hp | refine List.mem_cons_of_mem _ ?_)
        case i53 => exact d2inv (by dsimp only; omega) (by dsimp only; omega) (by (first | exact .cons _ _ (.cons _ _ (.cons _ _ .nil)) | exact .cons _ _ (.cons _ _ .nil) | exact .nil)) (Nat.zero_le 3) (fun h => one_a i2 hkl (by assumption) h) (fun h => one_b i2 hkl (by assumption) h)
        case r53 => ((intro z h2 h3; have h2' := h2; have h3' := h3; replace h2' := ne_p1 h2'; obtain ⟨_, h2'⟩ := h2'; replace h2' := ne_p1 h2'; obtain ⟨_, h2'⟩ := h2'; replace h2' := ne_p1 h2'; obtain ⟨_, h2'⟩ := h2'; replace h2' := ne_p1 h2'; obtain ⟨_, h2'⟩ := h2'; replace h2' := ne_p1 h2'; obtain ⟨_, h2'⟩ := h2'; clear h2' h3'; repeat' (first | with_reducible exact rfl | refine (if_neg (by with_reducible assumption)).trans ?_ | refine (if_neg (ne_tt h3)).trans ?_)))
    clear lF2 lN2
    rintro ⟨n', nt, bar, l, svs, sg, sh, two, t1, t2, k', tk'⟩ u32 h32 tk32 ⟨q1, q2, q3, q4, q5, q6⟩ F32 N32
    dsimp only at q1 q2 q3 q4 q5 q6 F32 N32
    (repeat' ((fail_if_success (with_reducible show wpAny _ _ (PySem.exec (PySem.Stmt.If _ _ _ _) _) _ _ _)); first | (k_unfold; (try dsimp only)) | (k_end; wrow_close) | walk1 | (dsimp only; walk1) | (leave1; walk_say "STEP leave1"; try dsimp only) | fail "no step"))
    (rename News _ _ _ _ => lN3)
    cases two with
    | true =>
      replace lN3 := tup1 lN3
      (repeat' ((fail_if_success (with_reducible show wpAny _ _ (PySem.exec (PySem.Stmt.While _ _ _ _) _) _ _ _)); first | (k_unfold; (try dsimp only)) | (k_end; wrow_close) | walk1 | (dsimp only; walk1) | (leave1; walk_say "STEP leave1"; try dsimp only) | fail "no step"))
      · have hq := q5 (by assumption)
        ((refine' due_end ?newx28 ?kx28' ?Nx28 ?Fx28 (by assumption) (by assumption) (by assumption) (by assumption) (by assumption) (by assumption) (by assumption) (by assumption) ?hlx28 ?hr0x28 ?hsubx28 ?hdx28 ?hm1x28 ?hm2x28 ?hm3x28; (case Nx28 => k_asm); (case Fx28 => k_asm); (case hr0x28 => k_mem); (case hm1x28 => with_unfolding_all rfl); (case hm2x28 => with_unfolding_all rfl); (case hsubx28 => (intro p hp; repeat' (first | exact hp | refine List.mem_cons_of_mem _ ?_))); (case hm3x28 => ((intro z h2 h3; have h2' := h2; have h3' := h3; replace h2' := ne_p1 h2'; obtain ⟨_, h2'⟩ := h2'; replace h2' := ne_p1 h2'; obtain ⟨_, h2'⟩ := h2'; replace h3' := ne_l1 h3'; obtain ⟨_, h3'⟩ := h3'; replace h3' := ne_l1 h3'; obtain ⟨_, h3'⟩ := h3'; replace h3' := ne_l1 h3'; obtain ⟨_, h3'⟩ := h3'; replace h3' := ne_l1 h3'; obtain ⟨_, h3'⟩ := h3'; clear h2' h3'; repeat' (first | with_reducible exact rfl | refine (if_neg (by with_reducible assumption)).trans ?_ | refine (if_neg (ne_tt h3)).trans ?_)))); (case hlx28 => (simp only [List.length_cons, List.length_nil]; omega)); (case hdx28 => (exact DatAll.cons (dat_pc (by k_mem) (by k_mem) (ints_drop2 (by assumption))) (.one (dat_pc (by k_mem) (by k_mem) (.cons _ _ .nil)))))))
      · have hq := q6 (by assumption)
        ((refine' due_end ?newx31 ?kx31' ?Nx31 ?Fx31 (by assumption) (by assumption) (by assumption) (by assumption) (by assumption) (by assumption) (by assumption) (by assumption) ?hlx31 ?hr0x31 ?hsubx31 ?hdx31 ?hm1x31 ?hm2x31 ?hm3x31; (case Nx31 => k_asm); (case Fx31 => k_asm); (case hr0x31 => k_mem); (case hm1x31 => with_unfolding_all rfl); (case hm2x31 => with_unfolding_all rfl); (case hsubx31 => (intro p hp; repeat' (first | exact hp | refine List.mem_cons_of_mem _ ?_))); (case hm3x31 => ((intro z h2 h3; have h2' := h2; have h3' := h3; replace h2' := ne_p1 h2'; obtain ⟨_, h2'⟩ := h2'; replace h2' := ne_p1 h2'; obtain ⟨_, h2'⟩ := h2'; replace h3' := ne_l1 h3'; obtain ⟨_, h3'⟩ := h3'; replace h3' := ne_l1 h3'; obtain ⟨_, h3'⟩ := h3'; replace h3' := ne_l1 h3'; obtain ⟨_, h3'⟩ := h3'; replace h3' := ne_l1 h3'; obtain ⟨_, h3'⟩ := h3'; clear h2' h3'; repeat' (first | with_reducible exact rfl | refine (if_neg (by with_reducible assumption)).trans ?_ | refine (if_neg (ne_tt h3)).trans ?_)))); (case hlx31 => (simp only [List.length_cons, List.length_nil]; omega)); (case hdx31 => (exact DatAll.one (dat_pc (by k_mem) (by k_mem) (ints_app (by assumption) (by assumption)))))))
    | false =>
      replace lN3 := tup0 lN3
      (repeat' ((fail_if_success (with_reducible show wpAny _ _ (PySem.exec (PySem.Stmt.While _ _ _ _) _) _ _ _)); first | (k_unfold; (try dsimp only)) | (k_end; wrow_close) | walk1 | (dsimp only; walk1) | (leave1; walk_say "STEP leave1"; try dsimp only) | fail "no step"))
      · have hq := q5 (by assumption)
        ((refine' due_end ?newx35 ?kx35' ?Nx35 ?Fx35 (by assumption) (by assumption) (by assumption) (by assumption) (by assumption) (by assumption) (by assumption) (by assumption) ?hlx35 ?hr0x35 ?hsubx35 ?hdx35 ?hm1x35 ?hm2x35 ?hm3x35; (case Nx35 => k_asm); (case Fx35 => k_asm); (case hr0x35 => k_mem); (case hm1x35 => with_unfolding_all rfl); (case hm2x35 => with_unfolding_all rfl); (case hsubx35 => (intro p hp; repeat' (first | exact hp | refine List.mem_cons_of_mem _ ?_))); (case hm3x35 => ((intro z h2 h3; have h2' := h2; have h3' := h3; replace h2' := ne_p1 h2'; obtain ⟨_, h2'⟩ := h2'; replace h2' := ne_p1 h2'; obtain ⟨_, h2'⟩ := h2'; replace h3' := ne_l1 h3'; obtain ⟨_, h3'⟩ := h3'; replace h3' := ne_l1 h3'; obtain ⟨_, h3'⟩ := h3'; replace h3' := ne_l1 h3'; obtain ⟨_, h3'⟩ := h3'; replace h3' := ne_l1 h3'; obtain ⟨_, h3'⟩ := h3'; clear h2' h3'; repeat' (first | with_reducible exact rfl | refine (if_neg (by with_reducible assumption)).trans ?_ | refine (if_neg (ne_tt h3)).trans ?_)))); (case hlx35 => (simp only [List.length_cons, List.length_nil]; omega)); (case hdx35 => (exact DatAll.cons (dat_pc (by k_mem) (by k_mem) (ints_drop2 (by assumption))) (.one (dat_pc (by k_mem) (by k_mem) (.cons _ _ .nil)))))))
      · have hq := q6 (by assumption)
        ((refine' due_end ?newx38 ?kx38' ?Nx38 ?Fx38 (by assumption) (by assumption) (by assumption) (by assumption) (by assumption) (by assumption) (by assumption) (by assumption) ?hlx38 ?hr0x38 ?hsubx38 ?hdx38 ?hm1x38 ?hm2x38 ?hm3x38; (case Nx38 => k_asm); (case Fx38 => k_asm); (case hr0x38 => k_mem); (case hm1x38 => with_unfolding_all rfl); (case hm2x38 => with_unfolding_all rfl); (case hsubx38 => (intro p hp; repeat' (first | exact hp | refine List.mem_cons_of_mem _ ?_))); (case hm3x38 => ((intro z h2 h3; have h2' := h2; have h3' := h3; replace h2' := ne_p1 h2'; obtain ⟨_, h2'⟩ := h2'; replace h2' := ne_p1 h2'; obtain ⟨_, h2'⟩ := h2'; replace h3' := ne_l1 h3'; obtain ⟨_, h3'⟩ := h3'; replace h3' := ne_l1 h3'; obtain ⟨_, h3'⟩ := h3'; replace h3' := ne_l1 h3'; obtain ⟨_, h3'⟩ := h3'; replace h3' := ne_l1 h3'; obtain ⟨_, h3'⟩ := h3'; clear h2' h3'; repeat' (first | with_reducible exact rfl | refine (if_neg (by with_reducible assumption)).trans ?_ | refine (if_neg (ne_tt h3)).trans ?_)))); (case hlx38 => (simp only [List.length_cons, List.length_nil]; omega)); (case hdx38 => (exact DatAll.one (dat_pc (by k_mem) (by k_mem) (ints_app (by assumption) (by assumption)))))))
  refine hret _ _ _ _ (by k_asm) (by k_asm) ⟨?_, ?_⟩
  · have e : dueFrom row = done := by
      rw [← i1, List.drop_of_length_le (by omega), dueFrom, List.append_nil]
    rw [e]
    exact .list (List.Mem.head _) (i4.mono fun p hp => .tail _ (.tail _ hp))
  · exact fun p hp => .tail _ (.tail _ (i5 p hp))
end
open PySem PySem.W PyProof.Rows PySem.Spec PySem.Calls
inductive Sg : Str → Nat → Prop
  | lb : Sg (Str.ofString "[") 91
  | rb : Sg (Str.ofString "]") 93
  | hat : Sg (Str.ofString "^") 94
  | bs : Sg (Str.ofString "\\") 92
  | bang : Sg (Str.ofString "!") 33
  | star : Sg (Str.ofString "*") 42
  | quest : Sg (Str.ofString "?") 63
theorem Sg.eq {y : Str} {d : Nat} (h : Sg y d) : y = ⟨#[d]⟩ := by
  cases h with
  | lb => exact o_lb
  | rb => exact o_rb
  | hat => exact o_hat
  | bs => exact o_bs
  | bang => exact o_bang
  | star => exact o_star
  | quest => exact o_quest
structure RdS where
  ps1 : List TP
  ps2 : List TP
  k : Int
  vs : List Value
  n : Nat
  tk : Tok
  tl : List (Addr × Obj)
noncomputable def RdInv (news : List (Addr × Obj)) (ps : List TP) (d : Addr) (c : RdS) : Prop :=
  c.ps1 ++ c.ps2 = ps ∧ c.k = ([40, 63, 115, 58] ++ psT c.ps1).length ∧ DatAll c.tl c.vs ((c.ps1.map TP.pc).map pcD) ∧ (∀ p ∈ news, p ∈ c.tl) ∧ OwnOff c.tl [d]
structure RiS where
  done : List (Bool × Nat)
  rest : List (Bool × Nat)
  k : Int
  svs : List Value
  n : Nat
  tk : Tok
noncomputable def RiInv (toks : List (Bool × Nat)) (pre : List Nat) (c : RiS) : Prop :=
  c.done ++ c.rest = toks ∧ c.k = (pre ++ toksT c.done).length ∧ IntsAre c.svs (c.done.map fun t => (t.2 : Int))
local macro_rules | `(tactic| walk_at "subscriptTail Name Name str int") => `(tactic| (k_here; refine ij_item (by omega) (by omega) (by assumption) ?_))
local macro_rules | `(tactic| walk_at "compareOp Eq str str") => `(tactic| (k_here; first | refine ij_eqF (by assumption) ?_ | refine ij_eqL (Sg.eq (by with_reducible constructor)) ?_))
local macro_rules | `(tactic| walk_at "compareOp NotEq str str") => `(tactic| (k_here; refine ij_neL (Sg.eq (by with_reducible constructor)) ?_))
local macro_rules | `(tactic| walk_at "compareOp Eq ref ref") => `(tactic| (k_here; first
  | (refine' ij_eqNil0 ?N ?a ?b ?u ?_; (case N => k_asm); (case a => k_mem); (case b => k_mem); (case u => ktr_units))
  | (refine' ij_eqNil1 ?N ?a ?b ?z ?u ?_; (case N => k_asm); (case a => k_mem); (case b => k_mem); (case z => assumption); (case u => ktr_units))))
section
variable {h₀ : Heap} {L' sg : Addr} {s : Shared} {svs : List Value} {nw rest0 : List (Addr × Obj)} {m₀ m' : Str → Option Value} {Q : Flow → Shared → Prop} {toks done rest : List (Bool × Nat)} {pre L post : List Nat} {k2 k' : Int} {n2 n' : Nat} {tk2 tk' t : Tok} {h' : Heap} {tk : Nat} {e : Bool} {c : Nat}
theorem ri_end (N : News h₀ L' h' nw) (F : Fr h₀ L' h' m') (hps : L = (pre ++ toksT done) ++ (tokT (e, c) ++ toksT rest ++ post)) (j1 : done ++ (e, c) :: rest = toks) (j2 : k2 = (pre ++ toksT done).length) (j3 : IntsAre svs (done.map fun t => (t.2 : Int)))
    (hm : (sg, listOf (svs.toArray.push (Value.int (c : Int) t)) n') ∈ nw) (hsub : ∀ p ∈ rest0, p ∈ nw) (hm2 : m' (Str.ofString "k") = some (.int k' tk')) (hk : k' = k2 + (tokT (e, c)).length)
    (hm3 : ∀ z, (∀ p ∈ [(Str.ofString "k", Value.int k' tk')], z ≠ p.1) → ([] : List Str).contains z = false → m' z = m₀ z) :
    IjPost h₀ L' s (fun (c : RiS) => (sg, listOf c.svs.toArray c.n) :: rest0) (fun c => [(Str.ofString "k", .int c.k c.tk)]) (RiInv toks pre) [] m₀ (fun c => L.length - c.k.toNat) Q
      ⟨done, (e, c) :: rest, k2, svs, n2, tk2⟩ .next { s with heap := h', toks := tk } := by
  have hl : 0 < (tokT (e, c)).length := by unfold tokT; split <;> simp
  have hll : L.length = (pre ++ toksT done).length + ((tokT (e, c)).length + (toksT rest).length + post.length) := by rw [hps]; simp only [List.length_append]
  refine ij_end ⟨done ++ [(e, c)], rest, k', svs ++ [Value.int (c : Int) t], n', tk'⟩ F N (fun p hp => ?_) (fun p hp => ?_) hm3 ⟨?_, ?_, ?_⟩ ?_
  · rcases List.mem_cons.mp hp with rfl | hp
    · simpa using hm
    exact hsub p hp
  · rcases List.mem_cons.mp hp with rfl | hp
    · exact hm2
    cases hp
  · show (done ++ [(e, c)]) ++ rest = toks
    rw [List.append_assoc]; exact j1
  · show k' = ((pre ++ toksT (done ++ [(e, c)])).length : Int)
    rw [hk, j2, toksT_app, ← List.append_assoc, List.length_append (as := pre ++ toksT done), toksT_cons]
    simp [toksT]
  · show IntsAre (svs ++ [_]) ((done ++ [(e, c)]).map _)
    rw [List.map_append]
    exact j3.append (.cons _ _ .nil)
  · show L.length - k'.toNat < L.length - k2.toNat
    omega
end
local macro_rules | `(tactic| walk_at "call builtin:list.append") => `(tactic| (k_here; k_dflt (refine' append_K (by k_asm) (by k_asm) (by k_upd) ?_ (by (rw [sizeLine_eq]; simp only [List.size_toArray, List.length_nil]; omega))); intro h' F' N'))
section
variable {h₀ : Heap} {L' sg l d : Addr} {s : Shared} {svs vs : List Value} {nw tl news : List (Addr × Obj)} {m₀ m' : Str → Option Value} {Q : Flow → Shared → Prop} {ps ps1 ps2 : List TP} {L post : List Nat} {k k' : Int} {n n' nl ns : Nat} {tkk tk' : Tok} {h' : Heap} {tk : Nat} {b : Bool} {p : TP}
theorem rd_end (N : News h₀ L' h' nw) (F : Fr h₀ L' h' m') (hps : L = ([40, 63, 115, 58] ++ psT ps1) ++ (p.text ++ post)) (hok : p.Ok) (i1 : ps1 ++ p :: ps2 = ps) (i2 : k = ([40, 63, 115, 58] ++ psT ps1).length) (i3 : DatAll tl vs ((ps1.map TP.pc).map pcD)) (i4 : ∀ p ∈ news, p ∈ tl) (i5 : OwnOff tl [d])
    (hm : (d, listOf (vs.toArray.push (.ref l)) n') ∈ nw) (hl : (l, listOf (List.toArray [.bool b, .ref sg]) nl) ∈ nw) (hs : (sg, listOf svs.toArray ns) ∈ nw) (hsub : ∀ p ∈ tl, p ∈ nw) (hne1 : l ≠ d) (hne2 : sg ≠ d) (hb : b = p.turned) (hi : IntsAre svs (p.toks.map fun t => (t.2 : Int)))
    (hm2 : m' (Str.ofString "k") = some (.int k' tk')) (hk : k' = k + p.text.length)
    (hm3 : ∀ z, (∀ p ∈ [(Str.ofString "k", Value.int k' tk')], z ≠ p.1) → [Str.ofString "inside", Str.ofString "turned", Str.ofString "signs"].contains z = false → m' z = m₀ z) :
    IjPost h₀ L' s (fun (c : RdS) => (d, listOf c.vs.toArray c.n) :: c.tl) (fun c => [(Str.ofString "k", .int c.k c.tk)]) (RdInv news ps d) [Str.ofString "inside", Str.ofString "turned", Str.ofString "signs"] m₀ (fun c => L.length - c.k.toNat) Q
      ⟨ps1, p :: ps2, k, vs, n, tkk, tl⟩ .next { s with heap := h', toks := tk } := by
  have hpos := TP.text_pos hok
  have hll : L.length = ([40, 63, 115, 58] ++ psT ps1).length + (p.text.length + post.length) := by rw [hps]; simp only [List.length_append]
  have hsub2 : ∀ q ∈ tl, q ∈ (l, listOf (List.toArray [.bool b, .ref sg]) nl) :: (sg, listOf svs.toArray ns) :: tl := fun q hq => .tail _ (.tail _ hq)
  refine ij_end ⟨ps1 ++ [p], ps2, k', vs ++ [.ref l], n', tk', (l, listOf (List.toArray [.bool b, .ref sg]) nl) :: (sg, listOf svs.toArray ns) :: tl⟩ F N (fun q hq => ?_) (fun q hq => ?_) hm3 ⟨?_, ?_, ?_, fun q hq => hsub2 q (i4 q hq), ?_⟩ ?_
  · rcases List.mem_cons.mp hq with rfl | hq
    · simpa using hm
    rcases List.mem_cons.mp hq with rfl | hq
    · exact hl
    rcases List.mem_cons.mp hq with rfl | hq
    · exact hs
    exact hsub q hq
  · rcases List.mem_cons.mp hq with rfl | hq
    · exact hm2
    cases hq
  · show (ps1 ++ [p]) ++ ps2 = ps
    rw [List.append_assoc]; exact i1
  · show k' = (([40, 63, 115, 58] ++ psT (ps1 ++ [p])).length : Int)
    rw [hk, i2, psT_app, ← List.append_assoc, List.length_append (as := [40, 63, 115, 58] ++ psT ps1), psT_cons]
    simp [psT]
  · show DatAll _ (vs ++ [.ref l]) (((ps1 ++ [p]).map TP.pc).map pcD)
    rw [List.map_append, List.map_append]
    refine (i3.mono hsub2).append (.one ?_)
    have e : p.toks.map (fun t => (t.2 : Int)) = (p.toks.map (·.2)).map fun (k : Nat) => (k : Int) := by rw [List.map_map]; rfl
    rw [e] at hi
    rw [hb]
    exact dat_pc (n := nl) (k := ns) (hb ▸ .head _) (.tail _ (.head _)) hi
  · intro q hq c hc
    rw [List.mem_singleton.mp hc]
    rcases List.mem_cons.mp hq with rfl | hq
    · exact hne1
    rcases List.mem_cons.mp hq with rfl | hq
    · exact hne2
    exact i5 q hq d (.head _)
  · show L.length - k'.toNat < L.length - k.toNat
    omega
end
noncomputable def opn (i t : Bool) : List Nat := if i then 91 :: (if t then [94] else []) else []
noncomputable def sht (i : Bool) : List Nat := if i then [93] else []
theorem text_is {i t : Bool} {ts : List (Bool × Nat)} : TP.text ⟨i, t, ts⟩ = opn i t ++ (toksT ts ++ sht i) := by
  cases i <;> cases t <;> simp [TP.text, opn, sht]
section
variable {prog : Program} {w : World} {A : Around} {E : Value → Shared → Prop} {Q : Flow → Shared → Prop} {s : Shared} {env : Env} {h₀ : Heap} {L : Addr}
noncomputable def IjAtN {σ : Type} (h₀ : Heap) (L : Addr) (s : Shared) (Led : List (Addr × Obj)) (ps : σ → List (Str × Value)) (m₀ : Str → Option Value) (s₂ : Shared) : Prop :=
  ∃ (c' : σ) (h' : Heap) (tk : Nat) (m' : Str → Option Value) (news' : List (Addr × Obj)), s₂ = { s with heap := h', toks := tk } ∧ Fr h₀ L h' m' ∧ News h₀ L h' news' ∧ (∀ p ∈ Led, p ∈ news') ∧ (∀ p ∈ ps c', m' p.1 = some p.2) ∧ (∀ z, (∀ p ∈ ps c', z ≠ p.1) → ([] : List Str).contains z = false → m' z = m₀ z)
theorem ij_atN {σ : Type} {Led : List (Addr × Obj)} {ps : σ → List (Str × Value)} {m₀ m' : Str → Option Value} {h' : Heap} {tk : Nat} {news' : List (Addr × Obj)} (c' : σ)
    (F : Fr h₀ L h' m') (N : News h₀ L h' news') (hn : ∀ p ∈ Led, p ∈ news') (hk : ∀ p ∈ ps c', m' p.1 = some p.2) (hr : ∀ z, (∀ p ∈ ps c', z ≠ p.1) → ([] : List Str).contains z = false → m' z = m₀ z) :
    IjAtN h₀ L s Led ps m₀ { s with heap := h', toks := tk } := ⟨c', h', tk, m', news', rfl, F, N, hn, hk, hr⟩
noncomputable def IjCutN {σ : Type} (h₀ : Heap) (L : Addr) (s : Shared) (Led : List (Addr × Obj)) (ps : σ → List (Str × Value)) (m₀ : Str → Option Value) (f : Flow) (s₂ : Shared) : Prop :=
  match f with
  | .next => IjAtN h₀ L s Led ps m₀ s₂
  | _ => False
theorem ij_cutN {σ : Type} {st : Stmt} {m₀ : Str → Option Value} (Led : List (Addr × Obj)) (ps : σ → List (Str × Value))
    (_F : Fr h₀ L s.heap m₀) (walk : wpAny (model prog w) A (exec st env) (IjCutN h₀ L s Led ps m₀) E s)
    (cont : ∀ (c : σ) (u : Str → Option Value) h tk, Fr h₀ L h (kstB (fun z => if ([] : List Str).contains z then u z else m₀ z) (ps c)) → News h₀ L h Led → Q .next { s with heap := h, toks := tk }) :
    wpAny (model prog w) A (exec st env) Q E s := by
  refine wpAny_mono walk (fun f s₂ h => ?_) fun _ _ x => x
  cases f with
  | next =>
    obtain ⟨c', h', tk', m', news', rfl, F', N', hn, hk9, hr9⟩ := h
    exact cont c' m' h' tk' (ksw_fr (stored := []) (m₀ := m₀) hk9 hr9 F') fun p hp => N' p (hn p hp)
  | cont => exact h.elim
  | brk => exact h.elim
  | ret v => exact h.elim
end
theorem cut_b {m' : Str → Option Value} {b b' : Bool} {x : Str} (hj : m' x = some (.bool b)) (e : b = b') : ∀ p ∈ [(x, Value.bool b')], m' p.1 = some p.2 := by
  intro p hp
  rw [List.mem_singleton.mp hp, ← e]
  exact hj
theorem cut_i {m' : Str → Option Value} {j X : Int} {x : Str} {tj : Tok} (hj : m' x = some (.int j tj)) (e : j = X) : ∀ p ∈ [(x, Value.int X tj)], m' p.1 = some p.2 := by
  intro p hp
  rw [List.mem_singleton.mp hp, ← e]
  exact hj
local macro_rules | `(tactic| walk_at "ij memr") => `(tactic| first | with_reducible exact List.Mem.head _ | (with_reducible refine List.Mem.tail _ ?_; walk_at "ij memr"))
theorem first_sign {toks : List (Bool × Nat)} (h : toks ≠ []) (x : Nat) (hx : x ≠ 92) (hf : ∀ t ∈ toks.head?, t.1 = false → t.2 ≠ x) (post : List Nat) : ∃ c, (toksT toks ++ post)[0]? = some c ∧ c ≠ x := by
  rcases toks with _ | ⟨⟨e, c⟩, r⟩
  · exact absurd rfl h
  rw [toksT_cons]
  cases e with
  | true => exact ⟨92, rfl, Ne.symm hx⟩
  | false => exact ⟨c, rfl, hf _ rfl rfl⟩
theorem c_read {w p loose mean mg mb} (news : List (Addr × Obj)) (ps : List TP) (hok : ∀ p ∈ ps, p.Ok) (L : List Nat) (hL : L = frameT ps) (hlen : L.length ≤ 1000) (t : Tok) :
    Calls w p loose mean mg mb 118 news [.str ⟨L.toArray⟩ t] 4 (fun r news' => DatIn news' r (pcsD (ps.map TP.pc)) ∧ ∀ p ∈ news, p ∈ news') := by
  unfold Calls
  k_fill
  intro dp un gd cn cs a ccd cl outer A₀ base h₀ Lc m s Q E B F X N T hk hdp hun hret
  have hH := hL ▸ fr_head ps
  have hT := hL ▸ fr_tail ps
  have hll : (⟨L.toArray⟩ : Str).length = L.length := rfl
  have hl7 : L.length = 7 + (psT ps).length := hL ▸ fr_len ps
  refine wpAny_call ?_
  k_dflt (((refine' code_def ?k1x41 ?k2x41 ?k3x41 ?k4x41 ?k5x41 ?kAx41 ?kFx41 ?kKx41 ?k6x41 ?k7x41 ?k8x41 ?k9x41 ?kBx41 ?_ ?c2x41 ?c3x41 ?c4x41 ?c5x41; (case kAx41 => exact rfl); (case kFx41 => exact rfl); (case kKx41 => first | assumption | exact rfl); (case k1x41 => k_asm); (case k2x41 => k_asm); (case k3x41 => k_asm); (case k4x41 => k_asm); (case k5x41 => k_asm); (case k6x41 => k_is); (case k7x41 => k_is); (case k8x41 => ktr_room); (case k9x41 => exact BindsTo.of_eq rfl); (case c5x41 => decide); (case kBx41 => exact locs rfl); (case c2x41 => exact rfl); (case c3x41 => exact rfl); (case c4x41 => exact rfl); k_whole; intro _ _ _ _ _ _ _ _ _; (try dsimp only); (walk_at "ij lift"); (try k_fold))); (rename Fr _ _ _ _ => lFe); replace lFe : Fr _ _ _ (fun y => List.lookup y [(Str.ofString "text", _)]) := (by with_unfolding_all exact lFe); walk_at "ij hide")
  (repeat' ((fail_if_success (with_reducible show wpAny _ _ (PySem.exec (PySem.Stmt.While _ _ _ _) _) _ _ _)); first | (k_unfold; (try dsimp only)) | (k_end; wrow_close) | walk1 | (dsimp only; walk1) | (leave1; walk_say "STEP leave1"; try dsimp only) | fail "no step"))
  (rename Fr _ _ _ _ => lF'); (rename News _ _ _ _ => lN')
  rename_i d hA l1a D0 hB l1b hC hD hE
  refine' ij_while (hE := by passes_own) (σ := RdS) (fun c => (d, listOf c.vs.toArray c.n) :: c.tl) (fun c => [(Str.ofString "k", .int c.k c.tk)]) (RdInv news ps d) [Str.ofString "inside", Str.ofString "turned", Str.ofString "signs"] (fun c => L.length - c.k.toNat)
    ⟨[], ps, 4, [], 0, ?tk00, news⟩ lF' lN' ?hn ?hkk ?hp ?turn
  case hkk => kst_all
  case hn =>
    intro p hp
    rcases List.mem_cons.mp hp with rfl | hp
    · exact .tail _ (.head _)
    exact .tail _ (.tail _ hp)
  case hp => exact ⟨rfl, rfl, .nil, fun _ h => h, fun p hp b hb => by rw [List.mem_singleton.mp hb]; exact Nat.ne_of_lt (l1a p hp)⟩
  clear lF' lN'
  rintro ⟨ps1, ps2, k, vs, n, tkk, tl⟩ u h9 tk9 ⟨i1, i2, i3, i4, i5⟩ F9 N9
  dsimp only at i1 i2 i3 i4 i5 F9 N9
  have hps : L = ([40, 63, 115, 58] ++ psT ps1) ++ (psT ps2 ++ [41, 92, 90]) := by rw [hL, ← i1, frameT, psT_app]; simp only [List.append_assoc]
  have hkl : k = 4 + (psT ps1).length := by rw [i2, List.length_append]; simp
  have hpl : (psT ps).length = (psT ps1).length + (psT ps2).length := by rw [← i1, psT_app, List.length_append]
  have hvl : vs.length ≤ 1000 := by
    have e := i3.length
    rw [List.length_map, List.length_map] at e
    have := psT_len ps1 fun p hp => hok p (i1 ▸ List.mem_append_left _ hp)
    omega
  rcases ps2 with _ | ⟨p, ps2⟩
  · have hz : (psT []).length = 0 := rfl
    (repeat' ((fail_if_success (with_reducible show wpAny _ _ (PySem.exec (PySem.Stmt.While _ _ _ _) _) _ _ _)); first | (k_unfold; (try dsimp only)) | (k_end; wrow_close) | walk1 | (dsimp only; walk1) | (leave1; walk_say "STEP leave1"; try dsimp only) | fail "no step"))
    refine hret _ _ _ _ (by k_asm) (by k_asm) ⟨?_, fun p hp => .tail _ (i4 p hp)⟩
    rw [← i1, List.append_nil]
    exact .list (List.Mem.head _) (i3.mono fun p hp => .tail _ hp)
  have hp := hok p (i1 ▸ List.mem_append_right _ (.head _))
  have hpp := TP.text_pos hp
  have hpt : (psT (p :: ps2)).length = p.text.length + (psT ps2).length := by rw [psT_cons, List.length_append]
  have hps : L = ([40, 63, 115, 58] ++ psT ps1) ++ (p.text ++ (psT ps2 ++ [41, 92, 90])) := by rw [hps, psT_cons]; simp only [List.append_assoc]
  obtain ⟨inside, turned, toks⟩ := p
  have hpsT := hps
  rw [text_is] at hps
  have hx : TP.text ⟨inside, turned, toks⟩ = opn inside turned ++ (toksT toks ++ sht inside) := text_is
  have hps0 : L = ([40, 63, 115, 58] ++ psT ps1 ++ opn inside turned) ++ (toksT toks ++ (sht inside ++ (psT ps2 ++ [41, 92, 90]))) := by rw [hps]; simp only [List.append_assoc]
  obtain ⟨c0v, c0, hc0⟩ : ∃ c, L[k.toNat]? = some c ∧ decide (c = 91) = inside := by
    cases inside with
    | true => exact ⟨91, ch_0 (mid := 91 :: ((if turned then [94] else []) ++ (toksT toks ++ ([93] ++ (psT ps2 ++ [41, 92, 90]))))) (by rw [hps0]; simp [opn, sht]) i2 rfl, by decide⟩
    | false =>
      obtain ⟨hto, hone, hfst⟩ := hp.out rfl
      obtain ⟨fs, hfc, hfs⟩ := first_sign hp.some 91 (by decide) hfst (psT ps2 ++ [41, 92, 90])
      exact ⟨fs, ch_0 (mid := toksT toks ++ (psT ps2 ++ [41, 92, 90])) (by rw [hps0]; simp [opn, sht]) i2 hfc, by simpa using hfs⟩
  obtain ⟨bi, hbi, hbi2⟩ : ∃ bi : Int, (inside = true → bi = 1) ∧ (inside = false → bi = 0) := by cases inside; exact ⟨0, by simp⟩; exact ⟨1, by simp⟩
  obtain ⟨bt, hbt, hbt2⟩ : ∃ bt : Int, (turned = true → bt = 1) ∧ (turned = false → bt = 0) := by cases turned; exact ⟨0, by simp⟩; exact ⟨1, by simp⟩
  have hbi3 : 0 ≤ bi ∧ bi ≤ 1 := by cases inside; simp [hbi2 rfl]; simp [hbi rfl]
  have hbt3 : 0 ≤ bt ∧ bt ≤ 1 := by cases turned; simp [hbt2 rfl]; simp [hbt rfl]
  have hout : inside = false → turned = false := fun e => (hp.out e).1
  have c1 : inside = true → ∃ c, L[(k + bi).toNat]? = some c ∧ decide (c = 94) = turned := by
    rintro rfl
    rw [hbi rfl]
    cases turned with
    | true => exact ⟨94, ch_1 (mid := 91 :: 94 :: (toksT toks ++ ([93] ++ (psT ps2 ++ [41, 92, 90])))) (by rw [hps0]; simp [opn, sht]) i2 rfl, by decide⟩
    | false =>
      obtain ⟨fs, hfc, hfs⟩ := first_sign hp.some 94 (by decide) (hp.first rfl rfl) (93 :: (psT ps2 ++ [41, 92, 90]))
      have hq : L = ([40, 63, 115, 58] ++ psT ps1 ++ [91]) ++ (toksT toks ++ (93 :: (psT ps2 ++ [41, 92, 90]))) := by rw [hps0]; simp [opn, sht]
      exact ⟨fs, ch_0 hq (by rw [List.length_append, Int.natCast_add, ← i2]; rfl) hfc, by simpa using hfs⟩
  have hk0 : k + bi + bt = (([40, 63, 115, 58] ++ psT ps1 ++ opn inside turned).length : Int) := by
    rw [List.length_append, Int.natCast_add, ← i2]
    cases inside with
    | true => cases turned <;> simp [hbi rfl, hbt2, hbt, opn]; omega
    | false => have := hout rfl; subst this; simp [hbi2 rfl, hbt2 rfl, opn]
  have hpre : (([40, 63, 115, 58] ++ psT ps1 ++ opn inside turned).length : Int) = k + bi + bt := hk0.symm
  have hsl0 : (toksT toks).length + (sht inside).length + ([40, 63, 115, 58] ++ psT ps1 ++ opn inside turned).length ≤ 1000 := by
    have := congrArg List.length hps0
    simp only [List.length_append] at this ⊢
    omega
  have hkk1 : 0 ≤ k + bi ∧ k + bi ≤ 1000 := by omega
  (repeat' ((fail_if_success (with_reducible show wpAny _ _ (PySem.exec (PySem.Stmt.Assign _ _ _) _) _ _ _)); first | (k_unfold; (try dsimp only)) | (k_end; wrow_close) | walk1 | (dsimp only; walk1) | (leave1; walk_say "STEP leave1"; try dsimp only) | fail "no step"))
  (rename Fr _ _ _ _ => lF2); (rename News _ _ _ _ => lN2)
  refine ij_cutN (σ := Unit) ((d, listOf vs.toArray n) :: tl) (fun _ => [(Str.ofString "inside", .bool inside)]) lF2 ?walk1 ?cont1
  case walk1 =>
    (repeat' ((fail_if_success (with_reducible show wpAny _ _ (PySem.exec (PySem.Stmt.While _ _ _ _) _) _ _ _)); first | (k_unfold; (try dsimp only)) | (k_end; wrow_close) | walk1 | (dsimp only; walk1) | (leave1; walk_say "STEP leave1"; try dsimp only) | fail "no step"))
    refine' ij_atN () ?F40 ?N40 ?m40 (cut_b ?k40 hc0) ?r40
    case F40 => k_asm
    case N40 => k_asm
    case m40 => (intro p hp; walk_at "ij mem")
    case k40 => exact rfl
    case r40 => ((intro z h2 h3; (simp only [List.forall_mem_cons, List.not_mem_nil, false_implies, implies_true, and_true, ne_eq] at h2); (simp only [List.contains_cons, List.contains_nil, Bool.or_false, Bool.or_eq_false_iff, beq_eq_false_iff_ne, ne_eq] at h3); (simp [kstB, h2, h3]; done)))
  clear lF2 lN2
  rintro ⟨⟩ u31 h31 tk31 F31 N31
  (repeat' ((fail_if_success (with_reducible show wpAny _ _ (PySem.exec (PySem.Stmt.Assign _ _ _) _) _ _ _)); first | (k_unfold; (try dsimp only)) | (k_end; wrow_close) | walk1 | (dsimp only; walk1) | (leave1; walk_say "STEP leave1"; try dsimp only) | fail "no step"))
  (rename Fr _ _ _ _ => lF2); (rename News _ _ _ _ => lN2)
  refine ij_cutN (σ := Tok) ((d, listOf vs.toArray n) :: tl) (fun c => [(Str.ofString "k", .int (k + bi) c)]) lF2 ?walk2 ?cont2
  case walk2 =>
    clear hps hpp hx hps0 c1 hk0 hpre hsl0
    cases inside
    all_goals
      (repeat' ((fail_if_success (with_reducible show wpAny _ _ (PySem.exec (PySem.Stmt.While _ _ _ _) _) _ _ _)); first | (k_unfold; (try dsimp only)) | (k_end; wrow_close) | walk1 | (dsimp only; walk1) | (leave1; walk_say "STEP leave1"; try dsimp only) | fail "no step"))
      refine' ij_atN _ ?F41 ?N41 ?m41 (cut_i ?k41 ?e41) ?r41
      case F41 => k_asm
      case N41 => k_asm
      case m41 => (intro p hp; walk_at "ij mem")
      case k41 => exact rfl
      case r41 => ((intro z h2 h3; (simp only [List.forall_mem_cons, List.not_mem_nil, false_implies, implies_true, and_true, ne_eq] at h2); (simp only [List.contains_cons, List.contains_nil, Bool.or_false, Bool.or_eq_false_iff, beq_eq_false_iff_ne, ne_eq] at h3); (simp [kstB, h2, h3]; done)))
      case e41 => first | rw [hbi rfl] | (rw [hbi2 rfl]; omega)
  clear lF2 lN2
  rintro tk32 u32 h32 tk32' F32 N32
  (repeat' ((fail_if_success (with_reducible show wpAny _ _ (PySem.exec (PySem.Stmt.Assign _ _ _) _) _ _ _)); first | (k_unfold; (try dsimp only)) | (k_end; wrow_close) | walk1 | (dsimp only; walk1) | (leave1; walk_say "STEP leave1"; try dsimp only) | fail "no step"))
  (rename Fr _ _ _ _ => lF2); (rename News _ _ _ _ => lN2)
  refine ij_cutN (σ := Unit) ((d, listOf vs.toArray n) :: tl) (fun _ => [(Str.ofString "turned", .bool turned)]) lF2 ?walk3 ?cont3
  case walk3 =>
    clear hps hpp hx hps0 hk0 hpre hsl0
    cases inside with
    | true =>
      obtain ⟨c1v, c1, hc1⟩ := c1 rfl
      (repeat' ((fail_if_success (with_reducible show wpAny _ _ (PySem.exec (PySem.Stmt.While _ _ _ _) _) _ _ _)); first | (k_unfold; (try dsimp only)) | (k_end; wrow_close) | walk1 | (dsimp only; walk1) | (leave1; walk_say "STEP leave1"; try dsimp only) | fail "no step"))
      refine' ij_atN () ?F42 ?N42 ?m42 (cut_b ?k42 hc1) ?r42
      case F42 => k_asm
      case N42 => k_asm
      case m42 => (intro p hp; walk_at "ij mem")
      case k42 => exact rfl
      case r42 => ((intro z h2 h3; (simp only [List.forall_mem_cons, List.not_mem_nil, false_implies, implies_true, and_true, ne_eq] at h2); (simp only [List.contains_cons, List.contains_nil, Bool.or_false, Bool.or_eq_false_iff, beq_eq_false_iff_ne, ne_eq] at h3); (simp [kstB, h2, h3]; done)))
    | false =>
      (repeat' ((fail_if_success (with_reducible show wpAny _ _ (PySem.exec (PySem.Stmt.While _ _ _ _) _) _ _ _)); first | (k_unfold; (try dsimp only)) | (k_end; wrow_close) | walk1 | (dsimp only; walk1) | (leave1; walk_say "STEP leave1"; try dsimp only) | fail "no step"))
      refine' ij_atN () ?F43 ?N43 ?m43 (cut_b ?k43 (hout rfl).symm) ?r43
      case F43 => k_asm
      case N43 => k_asm
      case m43 => (intro p hp; walk_at "ij mem")
      case k43 => exact rfl
      case r43 => ((intro z h2 h3; (simp only [List.forall_mem_cons, List.not_mem_nil, false_implies, implies_true, and_true, ne_eq] at h2); (simp only [List.contains_cons, List.contains_nil, Bool.or_false, Bool.or_eq_false_iff, beq_eq_false_iff_ne, ne_eq] at h3); (simp [kstB, h2, h3]; done)))
  clear lF2 lN2
  rintro ⟨⟩ u33 h33 tk33 F33 N33
  (repeat' ((fail_if_success (with_reducible show wpAny _ _ (PySem.exec (PySem.Stmt.Assign _ _ _) _) _ _ _)); first | (k_unfold; (try dsimp only)) | (k_end; wrow_close) | walk1 | (dsimp only; walk1) | (leave1; walk_say "STEP leave1"; try dsimp only) | fail "no step"))
  (rename Fr _ _ _ _ => lF2); (rename News _ _ _ _ => lN2)
  refine ij_cutN (σ := Tok) ((d, listOf vs.toArray n) :: tl) (fun c => [(Str.ofString "k", .int (k + bi + bt) c)]) lF2 ?walk4 ?cont4
  case walk4 =>
    clear hps hpp hx hps0 c1 hk0 hpre hsl0
    cases turned
    all_goals
      (repeat' ((fail_if_success (with_reducible show wpAny _ _ (PySem.exec (PySem.Stmt.While _ _ _ _) _) _ _ _)); first | (k_unfold; (try dsimp only)) | (k_end; wrow_close) | walk1 | (dsimp only; walk1) | (leave1; walk_say "STEP leave1"; try dsimp only) | fail "no step"))
      refine' ij_atN _ ?F44 ?N44 ?m44 (cut_i ?k44 ?e44) ?r44
      case F44 => k_asm
      case N44 => k_asm
      case m44 => (intro p hp; walk_at "ij mem")
      case k44 => exact rfl
      case r44 => ((intro z h2 h3; (simp only [List.forall_mem_cons, List.not_mem_nil, false_implies, implies_true, and_true, ne_eq] at h2); (simp only [List.contains_cons, List.contains_nil, Bool.or_false, Bool.or_eq_false_iff, beq_eq_false_iff_ne, ne_eq] at h3); (simp [kstB, h2, h3]; done)))
      case e44 => first | rw [hbt rfl] | (rw [hbt2 rfl]; omega)
  clear lF2 lN2
  rintro tk34 u34 h34 tk34' F34 N34
  (repeat' ((fail_if_success (with_reducible show wpAny _ _ (PySem.exec (PySem.Stmt.While _ _ _ _) _) _ _ _)); first | (k_unfold; (try dsimp only)) | (k_end; wrow_close) | walk1 | (dsimp only; walk1) | (leave1; walk_say "STEP leave1"; try dsimp only) | fail "no step"))
  have hol : ((opn inside turned).length : Int) = bi + bt := by
    rw [List.length_append, Int.natCast_add, ← i2] at hk0; omega
  generalize hpe : [40, 63, 115, 58] ++ psT ps1 ++ opn inside turned = pre0 at hps0 hk0 hpre hsl0
  (rename Fr _ _ _ _ => lF2); (rename News _ _ _ _ => lN2)
  (rename (_ < _ ∧ AllLt _ _) => l1c); obtain ⟨hds, hst⟩ := l1c
  have hoff2 := off_cons hst i5
  refine' ij_whileL (hE := by passes_own) (σ := RiS) (fun c => listOf c.svs.toArray c.n) (fun c => [(Str.ofString "k", .int c.k c.tk)]) (RiInv toks pre0) [] (fun c => L.length - c.k.toNat)
    ⟨[], toks, k + bi + bt, [], 0, ?tk311⟩ lF2 lN2 ?ho11 ?hkk11 ?hp11 ?turn11
  case ho11 => exact rfl
  case hkk11 => kst_all
  case hp11 => exact ⟨rfl, by rw [hk0]; simp [toksT], .nil⟩
  clear lF2 lN2
  rintro ⟨done, rest, k2, svs, n2, tk2⟩ u2 h2 tk22 ⟨j1, j2, j3⟩ F2 N2
  dsimp only at j1 j2 j3 F2 N2
  have hps2 : L = (pre0 ++ toksT done) ++ (toksT rest ++ (sht inside ++ (psT ps2 ++ [41, 92, 90]))) := by rw [hps0, ← j1, toksT_app]; simp only [List.append_assoc]
  have hk2 : 0 ≤ k2 := by rw [j2]; exact Int.natCast_nonneg _
  have hsl : svs.length ≤ 1000 := by
    have e := j3.length
    rw [List.length_map] at e
    have := toksT_len done
    have : (toksT toks).length = (toksT done).length + (toksT rest).length := by rw [← j1, toksT_app, List.length_append]
    omega
  have hk3 : k2 ≤ 1000 := by
    have : (toksT toks).length = (toksT done).length + (toksT rest).length := by rw [← j1, toksT_app, List.length_append]
    rw [j2, List.length_append]; omega
  clear hH hT hl7 hpl hsl0 hpre hkk1
  rcases done with _ | ⟨t0, done⟩
  · rcases rest with _ | ⟨⟨e, c⟩, rest⟩
    · exact absurd j1.symm hp.some
    cases j3
    rw [toksT_cons] at hps2
    cases e with
    | true =>
      have c2 : L[k2.toNat]? = some 92 := ch_0 hps2 j2 rfl
      have c3 : L[(k2 + 1).toNat]? = some c := ch_1 hps2 j2 rfl
      (repeat' ((fail_if_success (with_reducible show wpAny _ _ (PySem.compareOp _ (Value.ref _) _) _ _ _)); first | (k_unfold; (try dsimp only)) | (k_end; wrow_close) | walk1 | (dsimp only; walk1) | (leave1; walk_say "STEP leave1"; try dsimp only) | fail "no step"))
      ((refine' ij_eqNil0 ?Nx60 ?ax60 ?bx60 ?ux60 ?_; (case Nx60 => k_asm); (case ax60 => exact .tail _ (.head _)); (case bx60 => exact .head _); (case ux60 => ktr_units)))
      (repeat' ((fail_if_success (with_reducible show wpAny _ _ (PySem.exec (PySem.Stmt.While _ _ _ _) _) _ _ _)); first | (k_unfold; (try dsimp only)) | (k_end; wrow_close) | walk1 | (dsimp only; walk1) | (leave1; walk_say "STEP leave1"; try dsimp only) | fail "no step"))
      (refine' ri_end ?N ?F hps2 j1 j2 .nil ?hm ?hsub ?hm2 ?hk ?hm3; (case N => k_asm); (case F => k_asm); (case hm => k_mem); (case hsub => (intro p hp; repeat' (first | exact hp | refine List.mem_cons_of_mem _ ?_))); (case hm2 => with_unfolding_all rfl); (case hk => (simp only [tokT]; simp; try omega)); (case hm3 => ((intro z h2 h3; (simp only [List.forall_mem_cons, List.not_mem_nil, false_implies, implies_true, and_true, ne_eq] at h2); (simp only [List.contains_cons, List.contains_nil, Bool.or_false, Bool.or_eq_false_iff, beq_eq_false_iff_ne, ne_eq] at h3); (simp [kstB, h2, h3]; done)))))
    | false =>
      have hcb := hp.bare (false, c) (j1 ▸ .head _) rfl
      have c2 : L[k2.toNat]? = some c := ch_0 hps2 j2 rfl
      (repeat' ((fail_if_success (with_reducible show wpAny _ _ (PySem.compareOp _ (Value.ref _) _) _ _ _)); first | (k_unfold; (try dsimp only)) | (k_end; wrow_close) | walk1 | (dsimp only; walk1) | (leave1; walk_say "STEP leave1"; try dsimp only) | fail "no step"))
      ((refine' ij_eqNil0 ?Nx64 ?ax64 ?bx64 ?ux64 ?_; (case Nx64 => k_asm); (case ax64 => exact .tail _ (.head _)); (case bx64 => exact .head _); (case ux64 => ktr_units)))
      (repeat' ((fail_if_success (with_reducible show wpAny _ _ (PySem.exec (PySem.Stmt.While _ _ _ _) _) _ _ _)); first | (k_unfold; (try dsimp only)) | (k_end; wrow_close) | walk1 | (dsimp only; walk1) | (leave1; walk_say "STEP leave1"; try dsimp only) | fail "no step"))
      (refine' ri_end ?N ?F hps2 j1 j2 .nil ?hm ?hsub ?hm2 ?hk ?hm3; (case N => k_asm); (case F => k_asm); (case hm => k_mem); (case hsub => (intro p hp; repeat' (first | exact hp | refine List.mem_cons_of_mem _ ?_))); (case hm2 => with_unfolding_all rfl); (case hk => (simp only [tokT]; simp; try omega)); (case hm3 => ((intro z h2 h3; (simp only [List.forall_mem_cons, List.not_mem_nil, false_implies, implies_true, and_true, ne_eq] at h2); (simp only [List.contains_cons, List.contains_nil, Bool.or_false, Bool.or_eq_false_iff, beq_eq_false_iff_ne, ne_eq] at h3); (simp [kstB, h2, h3]; done)))))
  · have hne : svs ≠ [] := fun e => by rw [e] at j3; cases j3
    rcases rest with _ | ⟨⟨e, c⟩, rest⟩
    · have hj := (List.append_nil _).symm.trans j1
      have j2' := j2
      rw [hj, List.length_append, Int.natCast_add, ← hk0] at j2'
      have hxl : ((TP.text ⟨inside, turned, toks⟩).length : Int) = bi + bt + (toksT toks).length + (sht inside).length := by rw [hx, List.length_append, List.length_append]; omega
      cases inside with
      | true =>
        have c2 : L[k2.toNat]? = some 93 := ch_0 hps2 j2 rfl
        have hsh : (sht true).length = 1 := rfl
        (repeat' ((fail_if_success (with_reducible show wpAny _ _ (PySem.compareOp _ (Value.ref _) _) _ _ _)); first | (k_unfold; (try dsimp only)) | (k_end; wrow_close) | walk1 | (dsimp only; walk1) | (leave1; walk_say "STEP leave1"; try dsimp only) | fail "no step"))
        ((refine' ij_eqNil1 ?Nx68 ?ax68 ?bx68 ?zx68 ?ux68 ?_; (case Nx68 => k_asm); (case ax68 => exact .tail _ (.head _)); (case bx68 => exact .head _); (case zx68 => assumption); (case ux68 => ktr_units)))
        (repeat' ((fail_if_success (with_reducible show wpAny _ _ (PySem.exec (PySem.Stmt.While _ _ _ _) _) _ _ _)); first | (k_unfold; (try dsimp only)) | (k_end; wrow_close) | walk1 | (dsimp only; walk1) | (leave1; walk_say "STEP leave1"; try dsimp only) | fail "no step"))
        (refine' rd_end ?N ?F hpsT hp i1 i2 i3 i4 i5 ?hm ?hl ?hs ?hsub ?hne1 ?hne2 rfl ?hi ?hm2 ?hk ?hm3; (case N => k_asm); (case F => k_asm); (case hm => k_mem); (case hl => k_mem); (case hs => k_mem); (case hsub => (intro p hp; repeat' (first | exact hp | refine List.mem_cons_of_mem _ ?_))); (case hm2 => with_unfolding_all rfl); (case hne1 => (refine neN ?_; omega)); (case hne2 => (refine neN ?_; omega)); (case hi => exact (show _ = toks from (List.append_nil _).symm.trans j1) ▸ j3); (case hk => omega); (case hm3 => ((intro z h2 h3; (simp only [List.forall_mem_cons, List.not_mem_nil, false_implies, implies_true, and_true, ne_eq] at h2); (simp only [List.contains_cons, List.contains_nil, Bool.or_false, Bool.or_eq_false_iff, beq_eq_false_iff_ne, ne_eq] at h3); (simp [kstB, h2, h3]; done)))))
      | false =>
        have hsh : (sht false).length = 0 := rfl
        (repeat' ((fail_if_success (with_reducible show wpAny _ _ (PySem.compareOp _ (Value.ref _) _) _ _ _)); first | (k_unfold; (try dsimp only)) | (k_end; wrow_close) | walk1 | (dsimp only; walk1) | (leave1; walk_say "STEP leave1"; try dsimp only) | fail "no step"))
        ((refine' ij_eqNil1 ?Nx72 ?ax72 ?bx72 ?zx72 ?ux72 ?_; (case Nx72 => k_asm); (case ax72 => exact .tail _ (.head _)); (case bx72 => exact .head _); (case zx72 => assumption); (case ux72 => ktr_units)))
        (repeat' ((fail_if_success (with_reducible show wpAny _ _ (PySem.exec (PySem.Stmt.While _ _ _ _) _) _ _ _)); first | (k_unfold; (try dsimp only)) | (k_end; wrow_close) | walk1 | (dsimp only; walk1) | (leave1; walk_say "STEP leave1"; try dsimp only) | fail "no step"))
        (refine' rd_end ?N ?F hpsT hp i1 i2 i3 i4 i5 ?hm ?hl ?hs ?hsub ?hne1 ?hne2 rfl ?hi ?hm2 ?hk ?hm3; (case N => k_asm); (case F => k_asm); (case hm => k_mem); (case hl => k_mem); (case hs => k_mem); (case hsub => (intro p hp; repeat' (first | exact hp | refine List.mem_cons_of_mem _ ?_))); (case hm2 => with_unfolding_all rfl); (case hne1 => (refine neN ?_; omega)); (case hne2 => (refine neN ?_; omega)); (case hi => exact (show _ = toks from (List.append_nil _).symm.trans j1) ▸ j3); (case hk => omega); (case hm3 => ((intro z h2 h3; (simp only [List.forall_mem_cons, List.not_mem_nil, false_implies, implies_true, and_true, ne_eq] at h2); (simp only [List.contains_cons, List.contains_nil, Bool.or_false, Bool.or_eq_false_iff, beq_eq_false_iff_ne, ne_eq] at h3); (simp [kstB, h2, h3]; done)))))
    cases inside with
    | false =>
      have h1 := (hp.out rfl).2.1
      dsimp only at h1
      rw [← j1, List.length_append, List.length_cons, List.length_cons] at h1
      omega
    | true =>
      rw [toksT_cons] at hps2
      have hct := hp.tail rfl (e, c) (by rw [← j1]; exact List.mem_append_right _ (.head _))
      cases e with
      | true =>
        have c2 : L[k2.toNat]? = some 92 := ch_0 hps2 j2 rfl
        have c3 : L[(k2 + 1).toNat]? = some c := ch_1 hps2 j2 rfl
        (repeat' ((fail_if_success (with_reducible show wpAny _ _ (PySem.compareOp _ (Value.ref _) _) _ _ _)); first | (k_unfold; (try dsimp only)) | (k_end; wrow_close) | walk1 | (dsimp only; walk1) | (leave1; walk_say "STEP leave1"; try dsimp only) | fail "no step"))
        ((refine' ij_eqNil1 ?Nx76 ?ax76 ?bx76 ?zx76 ?ux76 ?_; (case Nx76 => k_asm); (case ax76 => exact .tail _ (.head _)); (case bx76 => exact .head _); (case zx76 => assumption); (case ux76 => ktr_units)))
        (repeat' ((fail_if_success (with_reducible show wpAny _ _ (PySem.exec (PySem.Stmt.While _ _ _ _) _) _ _ _)); first | (k_unfold; (try dsimp only)) | (k_end; wrow_close) | walk1 | (dsimp only; walk1) | (leave1; walk_say "STEP leave1"; try dsimp only) | fail "no step"))
        (refine' ri_end ?N ?F hps2 j1 j2 j3 ?hm ?hsub ?hm2 ?hk ?hm3; (case N => k_asm); (case F => k_asm); (case hm => k_mem); (case hsub => (intro p hp; repeat' (first | exact hp | refine List.mem_cons_of_mem _ ?_))); (case hm2 => with_unfolding_all rfl); (case hk => (simp only [tokT]; simp; try omega)); (case hm3 => ((intro z h2 h3; (simp only [List.forall_mem_cons, List.not_mem_nil, false_implies, implies_true, and_true, ne_eq] at h2); (simp only [List.contains_cons, List.contains_nil, Bool.or_false, Bool.or_eq_false_iff, beq_eq_false_iff_ne, ne_eq] at h3); (simp [kstB, h2, h3]; done)))))
      | false =>
        have hcb := hp.bare (false, c) (by rw [← j1]; exact List.mem_append_right _ (.head _)) rfl
        have hcc := hct rfl
        have c2 : L[k2.toNat]? = some c := ch_0 hps2 j2 rfl
        (repeat' ((fail_if_success (with_reducible show wpAny _ _ (PySem.compareOp _ (Value.ref _) _) _ _ _)); first | (k_unfold; (try dsimp only)) | (k_end; wrow_close) | walk1 | (dsimp only; walk1) | (leave1; walk_say "STEP leave1"; try dsimp only) | fail "no step"))
        ((refine' ij_eqNil1 ?Nx80 ?ax80 ?bx80 ?zx80 ?ux80 ?_; (case Nx80 => k_asm); (case ax80 => exact .tail _ (.head _)); (case bx80 => exact .head _); (case zx80 => assumption); (case ux80 => ktr_units)))
        (repeat' ((fail_if_success (with_reducible show wpAny _ _ (PySem.exec (PySem.Stmt.While _ _ _ _) _) _ _ _)); first | (k_unfold; (try dsimp only)) | (k_end; wrow_close) | walk1 | (dsimp only; walk1) | (leave1; walk_say "STEP leave1"; try dsimp only) | fail "no step"))
        (refine' ri_end ?N ?F hps2 j1 j2 j3 ?hm ?hsub ?hm2 ?hk ?hm3; (case N => k_asm); (case F => k_asm); (case hm => k_mem); (case hsub => (intro p hp; repeat' (first | exact hp | refine List.mem_cons_of_mem _ ?_))); (case hm2 => with_unfolding_all rfl); (case hk => (simp only [tokT]; simp; try omega)); (case hm3 => ((intro z h2 h3; (simp only [List.forall_mem_cons, List.not_mem_nil, false_implies, implies_true, and_true, ne_eq] at h2); (simp only [List.contains_cons, List.contains_nil, Bool.or_false, Bool.or_eq_false_iff, beq_eq_false_iff_ne, ne_eq] at h3); (simp [kstB, h2, h3]; done)))))
open PySem PySem.W PyProof.Rows PySem.Spec PySem.Calls
structure JnS where
  i : Int
  rvs : List Value
  n : Nat
  tk : Tok
noncomputable def JnInv (ivs : List Value) (c : JnS) : Prop := 0 ≤ c.i ∧ c.i ≤ (ivs.length : Int) ∧ c.rvs = ivs.take c.i.toNat
local macro_rules | `(tactic| walk_at "getAttr ref") => `(tactic| (k_here; (with_reducible show wpAny _ _ (getAttr (Value.ref _) (PySem.Str.ofString "append") _) _ _ _); k_dflt (refine' attrK_append (by k_asm) (by k_asm) (by k_mem) ?_; k_whole; intro x' h' F' N' l1; (try k_lt l1))))
local macro_rules | `(tactic| walk_at "callWith ref") => `(tactic| (k_here; (with_reducible show wpAny _ _ (callWith _ (Value.ref _) _ (backTo _ (starEach (_ :: _) _)) []) _ _ _); k_dflt (refine' callWith_app (by k_asm) (by k_mem) ?_; k_whole)))
local macro_rules | `(tactic| walk_at "And") => `(tactic| ((with_reducible show AppAt _ _ _ ∧ _); k_dflt (refine ⟨appAt_of (by k_asm) (by k_mem), ?_⟩); (try dsimp only [List.nil_append, List.cons_append])))
local macro_rules | `(tactic| walk_at "call ref") => `(tactic| (k_here; (with_reducible show wpAny _ _ (call (Value.ref _) [Value.str _ _]) _ _ _); k_dflt (refine' call_app (by k_asm) (by k_asm) (by k_mem) (by k_upd) ?_ (by (rw [sizeLine_eq]; simp only [List.size_toArray, List.length_nil]; omega))); intro h' F' N'))
local macro_rules | `(tactic| walk_at "call builtin:len") => `(tactic| (k_here; k_dflt (refine' ij_len (by k_asm) (by walk_at "ij mem") (by omega) ?_)))
local macro_rules | `(tactic| walk_at "compareOp IsNot str ref") => `(tactic| (k_here; refine wpAny_isNot_other (by rfl) (by intro x; cases x) ?_))
local macro_rules | `(tactic| walk_at "subscriptTail Name Name ref int") => `(tactic| (k_here; k_dflt (refine' ij_itemL (by k_asm) (by walk_at "ij mem") (by omega) (by omega) (by assumption) ?_)))
local macro_rules | `(tactic| walk_at "call builtin:str.join") => `(tactic| (k_here; k_dflt (refine' ij_join (by k_asm) (by walk_at "ij mem") (by assumption) (by assumption) (by assumption) ?_); intro t' k'))
theorem strsAre_get : ∀ {vs : List Value} {ys : List Str}, StrsAre vs ys → ∀ {i : Nat}, i < vs.length → ∃ x t, vs[i]? = some (.str x t)
  | _, _, .nil, _, h => absurd h (Nat.not_lt_zero _)
  | _, _, .cons x t r, 0, _ => ⟨x, t, rfl⟩
  | _, _, .cons x t r, i + 1, h => strsAre_get r (i := i) (Nat.lt_of_succ_lt_succ h)
theorem frame_is (J : List Nat) : Str.empty ++ Str.ofString "(?s:" ++ ⟨J.toArray⟩ ++ Str.ofString ")\\Z" = ⟨([40, 63, 115, 58] ++ (J ++ [41, 92, 90])).toArray⟩ := by
  rw [Str.empty_append, s_open, s_shut, tx_app, tx_app, List.append_assoc]
theorem c_join {w p loose mean mg mb} (news : List (Addr × Obj)) (li st : Addr) (ivs : List Value) (n : Nat) (xs : List Str) (hm : (li, listOf ivs.toArray n) ∈ news) (hi : StrsAre ivs xs) (hst : (st, ({ cls := .type "object" } : Obj)) ∈ news) (hlen : ivs.length ≤ 1000) (hsum : (xs.map (·.length)).sum + xs.length * (Str.ofString "").length ≤ 16777216) (J : List Nat) (hj : Txt.join (Str.ofString "") xs = ⟨J.toArray⟩) (hJ : J.length ≤ 1000) :
    Calls w p loose mean mg mb 69 news [.ref li, .ref st] 4 (fun r news' => (∃ t, r = .str ⟨([40, 63, 115, 58] ++ (J ++ [41, 92, 90])).toArray⟩ t) ∧ ∀ p ∈ news, p ∈ news') := by
  unfold Calls
  k_fill
  intro dp un gd cn cs a ccd cl outer A₀ base h₀ L m s Q E B F X N T hk hdp hun hret
  have hJl : (⟨J.toArray⟩ : Str).length = J.length := rfl
  refine wpAny_call ?_
  k_dflt (((refine' code_def ?k1x83 ?k2x83 ?k3x83 ?k4x83 ?k5x83 ?kAx83 ?kFx83 ?kKx83 ?k6x83 ?k7x83 ?k8x83 ?k9x83 ?kBx83 ?_ ?c2x83 ?c3x83 ?c4x83 ?c5x83; (case kAx83 => exact rfl); (case kFx83 => exact rfl); (case kKx83 => first | assumption | exact rfl); (case k1x83 => k_asm); (case k2x83 => k_asm); (case k3x83 => k_asm); (case k4x83 => k_asm); (case k5x83 => k_asm); (case k6x83 => k_is); (case k7x83 => k_is); (case k8x83 => ktr_room); (case k9x83 => exact BindsTo.of_eq rfl); (case c5x83 => decide); (case kBx83 => exact locs rfl); (case c2x83 => exact rfl); (case c3x83 => exact rfl); (case c4x83 => exact rfl); k_whole; intro _ _ _ _ _ _ _ _ _; (try dsimp only); (walk_at "ij lift"); (try k_fold))); (rename Fr _ _ _ _ => lFe); replace lFe : Fr _ _ _ (fun y => List.lookup y [(Str.ofString "STAR", _), (Str.ofString "inp", _)]) := (by with_unfolding_all exact lFe); walk_at "ij hide")
  (repeat' ((fail_if_success (with_reducible show wpAny _ _ (PySem.exec (PySem.Stmt.While _ _ _ _) _) _ _ _)); first | (k_unfold; (try dsimp only)) | (k_end; wrow_close) | walk1 | (dsimp only; walk1) | (leave1; walk_say "STEP leave1"; try dsimp only) | fail "no step"))
  (rename Fr _ _ _ _ => lF'); (rename News _ _ _ _ => lN')
  rename_i tk0 l hA l1a hB tk1 xa hC l1b hD D0 hE l1c hF hG hH
  have hoff := off_of_lt (d := l) (l := news) (allLt_of l1a)
  refine ij_while (hE := by passes_own) (σ := JnS) (fun c => (xa, boundApp l) :: (l, listOf c.rvs.toArray c.n) :: news) (fun c => [(Str.ofString "i", .int c.i c.tk)]) (JnInv ivs) [] (fun c => ivs.length - c.i.toNat)
    ⟨0, [], 0, tk1 + 1 + 1⟩ lF' lN' ?hn ?hkk ?hp ?turn
  case hn => exact fun p hp => .tail _ hp
  case hkk => kst_all
  case hp => exact ⟨Int.le_refl _, by dsimp only; omega, rfl⟩
  clear lF' lN'
  rintro ⟨i, rvs, nn, tki⟩ u h9 tk9 ⟨i1, i2, i3⟩ F9 N9
  dsimp only at i1 i2 i3 F9 N9
  have hrl : rvs.length ≤ 1000 := by rw [i3, List.length_take]; omega
  have hne : xa ≠ l := by (refine neN ?_; omega)
  rcases Int.lt_or_le i ivs.length with hlt | hge
  · obtain ⟨x, t, hx⟩ := strsAre_get hi (i := i.toNat) (by omega)
    (repeat' ((fail_if_success (with_reducible show wpAny _ _ (PySem.exec (PySem.Stmt.While _ _ _ _) _) _ _ _)); first | (k_unfold; (try dsimp only)) | (k_end; wrow_close) | walk1 | (dsimp only; walk1) | (leave1; walk_say "STEP leave1"; try dsimp only) | fail "no step"))
    refine' ij_end ⟨i + 1, rvs ++ [.str x t], nn + 1, ?tkz⟩ ?F2 ?N2 ?hn2 ?hk2 ?hr2 ?hp2 ?hm2
    case F2 => k_asm
    case N2 => k_asm
    case hn2 => (intro p hp; simpa using hp)
    case hk2 => kst_all
    case hr2 => ((intro z h2 h3; (simp only [List.forall_mem_cons, List.not_mem_nil, false_implies, implies_true, and_true, ne_eq] at h2); (simp only [List.contains_cons, List.contains_nil, Bool.or_false, Bool.or_eq_false_iff, beq_eq_false_iff_ne, ne_eq] at h3); (simp [kstB, h2, h3]; done)))
    case hp2 =>
      refine ⟨by dsimp only; omega, by dsimp only; omega, ?_⟩
      show rvs ++ [_] = ivs.take (i + 1).toNat
      rw [show (i + 1).toNat = i.toNat + 1 by omega, List.take_add_one, hx, i3]; rfl
    case hm2 => (dsimp only; omega)
  · have hie : i = ivs.length := by omega
    have hr : rvs = ivs := by rw [i3, hie]; simp
    subst hr
    (repeat' ((fail_if_success (with_reducible show wpAny _ _ (PySem.exec (PySem.Stmt.While _ _ _ _) _) _ _ _)); first | (k_unfold; (try dsimp only)) | (k_end; wrow_close) | walk1 | (dsimp only; walk1) | (leave1; walk_say "STEP leave1"; try dsimp only) | fail "no step"))
    (rename Fr _ _ _ _ => lF2); (rename News _ _ _ _ => lN2)
    refine ij_while (hE := by passes_own) (σ := Unit) (fun _ => (xa, boundApp l) :: (l, listOf rvs.toArray nn) :: news) (fun _ => []) (fun _ => True) [] (fun _ => 0) () lF2 lN2 (fun p hp => hp) (fun p hp => nomatch hp) trivial ?turn2
    clear lF2 lN2
    rintro _ u2 h2 tk2 - F2 N2
    (repeat' ((fail_if_success (with_reducible show wpAny _ _ (PySem.exec (PySem.Stmt.While _ _ _ _) _) _ _ _)); first | (k_unfold; (try dsimp only)) | (k_end; wrow_close) | walk1 | (dsimp only; walk1) | (leave1; walk_say "STEP leave1"; try dsimp only) | fail "no step"))
    · exact hret _ _ _ _ (by k_asm) (by k_asm) ⟨⟨_, congrArg (Value.str · _) (frame_is J)⟩, fun p hp => .tail _ (.tail _ hp)⟩
    · exact absurd hie (by assumption)
open PySem PySem.W PyProof.Rows PySem.Spec PySem.Calls
local macro_rules | `(tactic| walk_at "getMethod str") => `(tactic| with_reducible refine gm_tr ?_)
theorem c_esc93 {w p loose mean mg mb} (news : List (Addr × Obj)) (t : Tok) :
    Calls w p loose mean mg mb 55 news [.str ⟨#[93]⟩ t] 4 (fun r news' => (∃ t, r = .str ⟨[92, 93].toArray⟩ t) ∧ news' = news) := by
  unfold Calls
  k_fill
  intro dp un gd cn cs a ccd cl outer A₀ base h₀ L m s Q E B F X N T hk hdp hun hret
  refine wpAny_call ?_
  k_dflt (((refine' code_def ?k1x89 ?k2x89 ?k3x89 ?k4x89 ?k5x89 ?kAx89 ?kFx89 ?kKx89 ?k6x89 ?k7x89 ?k8x89 ?k9x89 ?kBx89 ?_ ?c2x89 ?c3x89 ?c4x89 ?c5x89; (case kAx89 => exact rfl); (case kFx89 => exact rfl); (case kKx89 => first | assumption | exact rfl); (case k1x89 => k_asm); (case k2x89 => k_asm); (case k3x89 => k_asm); (case k4x89 => k_asm); (case k5x89 => k_asm); (case k6x89 => k_is); (case k7x89 => k_is); (case k8x89 => ktr_room); (case k9x89 => exact BindsTo.of_eq rfl); (case c5x89 => decide); (case kBx89 => exact locs rfl); (case c2x89 => exact rfl); (case c3x89 => exact rfl); (case c4x89 => exact rfl); k_whole; intro _ _ _ _ _ _ _ _ _; (try dsimp only); (walk_at "ij lift"); (try k_fold))); (rename Fr _ _ _ _ => lFe); replace lFe : Fr _ _ _ (fun y => List.lookup y [(Str.ofString "pattern", _)]) := (by with_unfolding_all exact lFe); walk_at "ij hide")
  k_steps
  refine call_93 (by k_in) fun tk t' => ?_
  k_steps
  exact hret _ _ _ _ (by k_asm) (by k_asm) ⟨⟨_, rfl⟩, rfl⟩
theorem c_esc33 {w p loose mean mg mb} (news : List (Addr × Obj)) (t : Tok) :
    Calls w p loose mean mg mb 55 news [.str ⟨#[33]⟩ t] 4 (fun r news' => (∃ t, r = .str ⟨[33].toArray⟩ t) ∧ news' = news) := by
  unfold Calls
  k_fill
  intro dp un gd cn cs a ccd cl outer A₀ base h₀ L m s Q E B F X N T hk hdp hun hret
  refine wpAny_call ?_
  k_dflt (((refine' code_def ?k1x90 ?k2x90 ?k3x90 ?k4x90 ?k5x90 ?kAx90 ?kFx90 ?kKx90 ?k6x90 ?k7x90 ?k8x90 ?k9x90 ?kBx90 ?_ ?c2x90 ?c3x90 ?c4x90 ?c5x90; (case kAx90 => exact rfl); (case kFx90 => exact rfl); (case kKx90 => first | assumption | exact rfl); (case k1x90 => k_asm); (case k2x90 => k_asm); (case k3x90 => k_asm); (case k4x90 => k_asm); (case k5x90 => k_asm); (case k6x90 => k_is); (case k7x90 => k_is); (case k8x90 => ktr_room); (case k9x90 => exact BindsTo.of_eq rfl); (case c5x90 => decide); (case kBx90 => exact locs rfl); (case c2x90 => exact rfl); (case c3x90 => exact rfl); (case c4x90 => exact rfl); k_whole; intro _ _ _ _ _ _ _ _ _; (try dsimp only); (walk_at "ij lift"); (try k_fold))); (rename Fr _ _ _ _ => lFe); replace lFe : Fr _ _ _ (fun y => List.lookup y [(Str.ofString "pattern", _)]) := (by with_unfolding_all exact lFe); walk_at "ij hide")
  k_steps
  (rename Fr _ _ _ _ => F1); (rename News _ _ _ _ => N1)
  refine call_33 (by k_in) rfl fun h' tk t' hk' => ?_
  have F2 := F1.keeps hk'
  have N2 := N1.grown hk'
  clear F1 N1
  k_steps
  exact hret _ _ _ _ (by k_asm) (by k_asm) ⟨⟨_, rfl⟩, rfl⟩
inductive EscIs : List Value → Str → Prop
  | a (t : Tok) : EscIs [.str ⟨#[93]⟩ t] ⟨[92, 93].toArray⟩
  | b (t : Tok) : EscIs [.str ⟨#[33]⟩ t] ⟨[33].toArray⟩
theorem esc {w p loose mean mg mb} (news : List (Addr × Obj)) {vs : List Value} {V : Str} (h : EscIs vs V) :
    Calls w p loose mean mg mb 55 news vs 4 (fun r news' => (∃ t, r = .str V t) ∧ news' = news) := by
  cases h with
  | a t => exact c_esc93 news t
  | b t => exact c_esc33 news t
open PySem PySem.W PyProof.Rows PySem.Spec PySem.Calls
noncomputable def qLam : Str := Str.ofString "_translate.<locals>.<lambda>"
noncomputable def qGen : Str := Str.ofString "_translate.<locals>.<genexpr>"
structure TrS where
  pre : List Nat
  pend : List Nat
  rows : List Int
  out : List TP
  vs : List Value
  n : Nat
  ps : Array Value
  codes : List (Addr × Obj)
  tk : Tok
structure CuS where
  ps : Array Value
  codes : List (Addr × Obj)
  t : Tok
structure TkS where
  t : Tok
structure ChS where
  k : Int
  tk : Tok
  i : Int
  ti : Tok
  cvs : List Value
  n : Nat
noncomputable def ChI (pre u : List Nat) (c : ChS) : Prop :=
  (c.cvs = [] ∧ c.k = (pre.length : Int) + 1 + k1 u + 1 ∧ c.i = (pre.length : Int) + 1) ∨ (4 ≤ u.length ∧ k1 u = 1 ∧ c.k = (pre.length : Int) + 1 + u.length + 2 ∧ c.i = (pre.length : Int) + 1 + u.length ∧ ∃ t, c.cvs = [.str (tx u.dropLast) t])
noncomputable def ChEnd (pre u : List Nat) (c : ChS) : Prop :=
  (u.length = 1 + k1 u ∧ c.i = (pre.length : Int) + 1 ∧ c.cvs = []) ∨ (4 ≤ u.length ∧ k1 u = 1 ∧ c.i = (pre.length : Int) + 1 + u.length ∧ ∃ t, c.cvs = [.str (tx u.dropLast) t])
structure ChT where
  t : Tok
  n : Nat
structure JS where
  j : Int
  tk : Tok
noncomputable def TrInv (Lt : List Nat) (tps : List TP) (rest : List (Addr × Obj)) (l xa : Addr) (c : TrS) : Prop :=
  Lt = c.pre ++ (c.pend ++ patT c.rows) ∧ Shape c.pend c.rows ∧ StrsAre c.vs (c.out.map fun p => tx p.text) ∧ c.out ++ (pendP c.pend ++ trP c.rows) = tps ∧ c.vs.length ≤ c.pre.length ∧ Tab qLam qGen c.ps c.codes ∧ OwnOff (c.codes ++ rest) [xa, l, 57]
noncomputable def TrRet (tps : List TP) (rest : List (Addr × Obj)) (r : Value) (news' : List (Addr × Obj)) : Prop :=
  ∃ li vs n ps' codes', r = .ref li ∧ (li, listOf vs.toArray n) ∈ news' ∧ StrsAre vs (tps.map fun p => tx p.text) ∧ vs.length ≤ 1000 ∧ Tab qLam qGen ps' codes' ∧ (57, tabObj ps') ∈ news' ∧ (∀ p ∈ codes', p ∈ news') ∧ (∀ p ∈ rest, p ∈ news') ∧ (∀ p ∈ codes' ++ rest, p.1 ≠ 57)
section
variable {h₀ h' : Heap} {L' l xa : Addr} {s : Shared} {nw rest codes codes' : List (Addr × Obj)} {m₀ m' : Str → Option Value} {Q : Flow → Shared → Prop} {pre mid pend pend' Lt : List Nat} {rows rows' : List Int} {out tps : List TP} {vs : List Value} {n n' tk : Nat} {ps ps' : Array Value} {tki tk' t : Tok} {i' : Int} {p : TP} {y : Str} {g' : BG}
theorem tr_end (N : News h₀ L' h' nw) (F : Fr h₀ L' h' m') (i1 : Lt = (pre ++ mid) ++ (pend' ++ patT rows')) (hs : Shape pend' rows') (i3 : StrsAre vs (out.map fun p => tx p.text)) (hy : y = tx p.text) (h4 : (out ++ [p]) ++ (pendP pend' ++ trP rows') = tps)
    (h0 : 0 < mid.length) (i5 : vs.length ≤ pre.length) (i6 : Tab qLam qGen ps' codes') (i7 : OwnOff (codes' ++ rest) [xa, l, 57]) (hm : (l, listOf (vs.toArray.push (.str y t)) n') ∈ nw) (hxa : (xa, boundApp l) ∈ nw) (h57 : (57, tabObj ps') ∈ nw) (hsub : ∀ p ∈ codes' ++ rest, p ∈ nw)
    (hi : m' (Str.ofString "i") = some (.int i' tk')) (hi' : i' = (pre.length : Int) + mid.length)
    (hm3 : ∀ z, (∀ p ∈ [(Str.ofString "i", Value.int i' tk')], z ≠ p.1) → ([Str.ofString "c", Str.ofString "j", Str.ofString "stuff", Str.ofString "chunks", Str.ofString "k", Str.ofString "chunk"] : List Str).contains z = false → m' z = m₀ z) :
    IjPostG h₀ L' s (fun (c : TrS) => (xa, boundApp l) :: (l, listOf c.vs.toArray c.n) :: (57, tabObj c.ps) :: (c.codes ++ rest)) (fun c => [(Str.ofString "i", .int c.pre.length c.tk)]) (TrInv Lt tps rest l xa)
      [Str.ofString "c", Str.ofString "j", Str.ofString "stuff", Str.ofString "chunks", Str.ofString "k", Str.ofString "chunk"] m₀ (fun c => Lt.length - c.pre.length) Q
      ⟨pre, pend, rows, out, vs, n, ps, codes, tki⟩ .next { s with heap := h', toks := tk, gens := g'.1 } := by
  have hi2 : i' = ((pre ++ mid).length : Int) := by rw [hi', List.length_append]; omega
  subst hi2
  refine ij_at ⟨pre ++ mid, pend', rows', out ++ [p], vs ++ [.str y t], n', ps', codes', tk'⟩ F N (fun q hq => ?_) (fun q hq => ?_) hm3 ⟨⟨i1, hs, ?_, h4, ?_, i6, i7⟩, ?_⟩
  · rcases List.mem_cons.mp hq with rfl | hq
    · exact hxa
    · rcases List.mem_cons.mp hq with rfl | hq
      · simpa using hm
      · rcases List.mem_cons.mp hq with rfl | hq
        · exact h57
        · exact hsub q hq
  · rw [List.mem_singleton.mp hq]; exact hi
  · subst hy
    rw [List.map_append]
    exact strsAre_app i3 (.cons _ _ .nil)
  · dsimp only
    simp only [List.length_append, List.length_cons, List.length_nil]
    omega
  · dsimp only
    rw [i1]
    simp only [List.length_append]
    omega
end
theorem b_lb : Str.ofString "\\[" = tx (loneP true 91).text := by decide +kernel
theorem cut_j {m' : Str → Option Value} {j X : Int} {tj : Tok} (hj : m' (Str.ofString "j") = some (.int j tj)) (e : j = X) : ∀ p ∈ [(Str.ofString "j", Value.int X tj)], m' p.1 = some p.2 := by
  intro p hp
  rw [List.mem_singleton.mp hp, ← e]
  exact hj
section
variable {codes codes' rest : List (Addr × Obj)} {P xa l : Addr} {o ox ol : Obj}
theorem perm1 {q : Addr × Obj} (h : q ∈ (P, o) :: (codes ++ ((xa, ox) :: (l, ol) :: rest))) : q ∈ (xa, ox) :: (l, ol) :: (P, o) :: (codes ++ rest) := by
  rcases List.mem_cons.mp h with rfl | h
  · exact .tail _ (.tail _ (.head _))
  · rcases List.mem_append.mp h with h | h
    · exact .tail _ (.tail _ (.tail _ (List.mem_append_left _ h)))
    · rcases List.mem_cons.mp h with rfl | h
      · exact .head _
      · rcases List.mem_cons.mp h with rfl | h
        · exact .tail _ (.head _)
        · exact .tail _ (.tail _ (.tail _ (List.mem_append_right _ h)))
theorem perm2 {q : Addr × Obj} (h : q ∈ (xa, ox) :: (l, ol) :: (P, o) :: (codes ++ rest)) : q ∈ (P, o) :: (codes ++ ((xa, ox) :: (l, ol) :: rest)) := by
  rcases List.mem_cons.mp h with rfl | h
  · exact .tail _ (List.mem_append_right _ (.head _))
  · rcases List.mem_cons.mp h with rfl | h
    · exact .tail _ (List.mem_append_right _ (.tail _ (.head _)))
    · rcases List.mem_cons.mp h with rfl | h
      · exact .head _
      · rcases List.mem_append.mp h with h | h
        · exact .tail _ (List.mem_append_left _ h)
        · exact .tail _ (List.mem_append_right _ (.tail _ (.tail _ h)))
theorem ne_perm (h : OwnOff (codes ++ rest) [xa, l, P]) (hx : xa ≠ P) (hl : l ≠ P) : ∀ p ∈ codes ++ ((xa, ox) :: (l, ol) :: rest), p.1 ≠ P := by
  intro p hp
  rcases List.mem_append.mp hp with hp | hp
  · exact h p (List.mem_append_left _ hp) P (.tail _ (.tail _ (.head _)))
  · rcases List.mem_cons.mp hp with rfl | hp
    · exact hx
    · rcases List.mem_cons.mp hp with rfl | hp
      · exact hl
      · exact h p (List.mem_append_right _ hp) P (.tail _ (.tail _ (.head _)))
theorem off_new (h : OwnOff (codes ++ rest) [xa, l, P]) (hne : ∀ p ∈ codes' ++ ((xa, ox) :: (l, ol) :: rest), p.1 ≠ P) (hold : ∀ p ∈ codes', p ∈ codes ∨ ∀ q ∈ (xa, ox) :: (l, ol) :: rest, q.1 < p.1) : OwnOff (codes' ++ rest) [xa, l, P] := by
  intro p hp b hb
  rcases List.mem_append.mp hp with hp | hp
  · rcases hold p hp with h1 | h1
    · exact h p (List.mem_append_left _ h1) b hb
    · rcases List.mem_cons.mp hb with rfl | hb
      · exact Nat.ne_of_gt (h1 _ (.head _))
      · rcases List.mem_cons.mp hb with rfl | hb
        · exact Nat.ne_of_gt (h1 _ (.tail _ (.head _)))
        · rw [List.mem_singleton.mp hb]; exact hne p (List.mem_append_left _ hp)
  · exact h p (List.mem_append_right _ hp) b hb
end
section
variable {codes codes' rest : List (Addr × Obj)} {P D xa l : Addr} {o ox ol oD : Obj}
theorem perm3 {q : Addr × Obj} (h : q ∈ (P, o) :: (codes ++ ((D, oD) :: (xa, ox) :: (l, ol) :: rest))) : q ∈ (D, oD) :: (xa, ox) :: (l, ol) :: (P, o) :: (codes ++ rest) := by
  rcases List.mem_cons.mp h with rfl | h
  · exact .tail _ (.tail _ (.tail _ (.head _)))
  · rcases List.mem_append.mp h with h | h
    · exact .tail _ (.tail _ (.tail _ (.tail _ (List.mem_append_left _ h))))
    · rcases List.mem_cons.mp h with rfl | h
      · exact .head _
      · rcases List.mem_cons.mp h with rfl | h
        · exact .tail _ (.head _)
        · rcases List.mem_cons.mp h with rfl | h
          · exact .tail _ (.tail _ (.head _))
          · exact .tail _ (.tail _ (.tail _ (.tail _ (List.mem_append_right _ h))))
theorem perm4 {q : Addr × Obj} (h : q ∈ (xa, ox) :: (l, ol) :: (P, o) :: (codes ++ rest)) : q ∈ (P, o) :: (codes ++ ((D, oD) :: (xa, ox) :: (l, ol) :: rest)) := by
  rcases List.mem_cons.mp h with rfl | h
  · exact .tail _ (List.mem_append_right _ (.tail _ (.head _)))
  · rcases List.mem_cons.mp h with rfl | h
    · exact .tail _ (List.mem_append_right _ (.tail _ (.tail _ (.head _))))
    · rcases List.mem_cons.mp h with rfl | h
      · exact .head _
      · rcases List.mem_append.mp h with h | h
        · exact .tail _ (List.mem_append_left _ h)
        · exact .tail _ (List.mem_append_right _ (.tail _ (.tail _ (.tail _ h))))
theorem ne_perm3 (h : OwnOff (codes ++ rest) [D, xa, l, P]) (hd : D ≠ P) (hx : xa ≠ P) (hl : l ≠ P) : ∀ p ∈ codes ++ ((D, oD) :: (xa, ox) :: (l, ol) :: rest), p.1 ≠ P := by
  intro p hp
  have hP : P ∈ [D, xa, l, P] := .tail _ (.tail _ (.tail _ (.head _)))
  rcases List.mem_append.mp hp with hp | hp
  · exact h p (List.mem_append_left _ hp) P hP
  · rcases List.mem_cons.mp hp with rfl | hp
    · exact hd
    · rcases List.mem_cons.mp hp with rfl | hp
      · exact hx
      · rcases List.mem_cons.mp hp with rfl | hp
        · exact hl
        · exact h p (List.mem_append_right _ hp) P hP
theorem off_new3 (h : OwnOff (codes ++ rest) [xa, l, P]) (hne : ∀ p ∈ codes' ++ ((D, oD) :: (xa, ox) :: (l, ol) :: rest), p.1 ≠ P) (hold : ∀ p ∈ codes', p ∈ codes ∨ ∀ q ∈ (D, oD) :: (xa, ox) :: (l, ol) :: rest, q.1 < p.1) : OwnOff (codes' ++ rest) [xa, l, P] := by
  intro p hp b hb
  rcases List.mem_append.mp hp with hp | hp
  · rcases hold p hp with h1 | h1
    · exact h p (List.mem_append_left _ h1) b hb
    · rcases List.mem_cons.mp hb with rfl | hb
      · exact Nat.ne_of_gt (h1 _ (.tail _ (.head _)))
      · rcases List.mem_cons.mp hb with rfl | hb
        · exact Nat.ne_of_gt (h1 _ (.tail _ (.tail _ (.head _))))
        · rw [List.mem_singleton.mp hb]; exact hne p (List.mem_append_left _ hp)
  · exact h p (List.mem_append_right _ hp) b hb
end
theorem sp_is : spB = special := rfl
theorem sp_none {e : List Nat} (h : e.any spB = false) : ∀ i, i < (tx e).cps.size → special ((tx e).cps.getD i 0) = false := by
  intro i hi
  have hi' : i < e.length := hi
  have h1 : (tx e).cps.getD i 0 = e[i] := by
    show (e.toArray).getD i 0 = _
    simp [Array.getD, hi']
  rw [h1, ← sp_is]
  rw [List.any_eq_false] at h
  simpa using h _ (List.getElem_mem hi')
theorem sp_last {e : List Nat} (hne : e ≠ []) (h1 : e.dropLast.any spB = false) (h2 : spB (e.getLastD 0) = true) :
    e.length - 1 + 1 = (tx e).cps.size ∧ special ((tx e).cps.getD (e.length - 1) 0) = true ∧ (∀ i, i < e.length - 1 → special ((tx e).cps.getD i 0) = false) ∧
      (⟨(tx e).cps.extract 0 (e.length - 1) ++ (⟨#[92, e.getLastD 0]⟩ : Str).cps⟩ : Str) = tx (e.dropLast ++ [92, e.getLastD 0]) ∧ (⟨(tx e).cps.extract (e.length - 1) (e.length - 1 + 1)⟩ : Str) = ⟨#[e.getLastD 0]⟩ := by
  obtain ⟨d, c, rfl⟩ : ∃ d c, e = d ++ [c] := ⟨e.dropLast, e.getLast hne, (List.dropLast_concat_getLast hne).symm⟩
  have hl : (d ++ [c]).length - 1 = d.length := by simp
  rw [hl]
  have hlast : (d ++ [c]).getLastD 0 = c := by simp
  have hdl : (d ++ [c]).dropLast = d := by simp
  rw [hlast] at h2 ⊢
  rw [hdl] at h1 ⊢
  refine ⟨by simp, ?_, fun i hi => ?_, ?_, ?_⟩
  · rw [← sp_is, show (tx (d ++ [c])).cps.getD d.length 0 = c by show ((d ++ [c]).toArray).getD d.length 0 = c; simp [Array.getD]]
    exact h2
  · have := sp_none h1 i hi
    rw [show (tx (d ++ [c])).cps.getD i 0 = (tx d).cps.getD i 0 by
      show ((d ++ [c]).toArray).getD i 0 = (d.toArray).getD i 0
      have h9 : i < d.length + 1 := by omega
      simp [Array.getD, hi, h9, List.getElem_append_left hi]]
    exact this
  · simp [tx]
  · simp
theorem esc2_len : ∀ u : List Nat, u.length ≤ (u.flatMap esc2).length ∧ (u.flatMap esc2).length ≤ 2 * u.length
  | [] => ⟨Nat.le_refl _, Nat.le_refl _⟩
  | c :: r => by
    have h := esc2_len r
    rw [List.flatMap_cons, List.length_append, List.length_cons]
    have : 1 ≤ (esc2 c).length ∧ (esc2 c).length ≤ 2 := by unfold esc2; split <;> simp
    omega
theorem esc1_len : ∀ u : List Nat, u.length ≤ (u.flatMap esc1).length ∧ (u.flatMap esc1).length ≤ 2 * u.length
  | [] => ⟨Nat.le_refl _, Nat.le_refl _⟩
  | c :: r => by
    have h := esc1_len r
    rw [List.flatMap_cons, List.length_append, List.length_cons]
    have : 1 ≤ (esc1 c).length ∧ (esc1 c).length ≤ 2 := by unfold esc1; split <;> simp
    omega
theorem any_is (c : Nat) : ([Str.ofString "^", Str.ofString "["].any fun x => x == (⟨#[c]⟩ : Str)) = true ↔ (c = 94 ∨ c = 91) := by
  have key : ∀ d : Nat, ((⟨#[d]⟩ : Str) == ⟨#[c]⟩) = true ↔ c = d := by
    intro d
    rw [beq_iff_eq]
    constructor
    · intro e; injection e with e; injection e with e; injection e with e; exact e.symm
    · intro e; rw [e]
  simp only [List.any_cons, List.any_nil, Bool.or_false, Bool.or_eq_true, o_hat, o_lb, key]
theorem last_a {e : List Nat} (hl : 0 < e.length) (h : e.getD 0 0 = 33) : Str.ofString "^" ++ Txt.slice (tx e) (some 1) none = tx (lastS e) := by
  have h1 : Txt.slice (tx e) (some 1) none = tx (e.drop 1) := by
    have := eq_of_beq (slice_closes_fromL (x := tx e) (i := 1) (b := (e.length : Int)) (by decide) (by show (1 : Int) ≤ (e.length : Int); omega) rfl)
    rw [this]
    show (⟨((e.drop 1).take ((e.length : Int) - 1).toNat).toArray⟩ : Str) = tx (e.drop 1)
    rw [List.take_of_length_le (by rw [List.length_drop]; omega)]
  rw [h1, s_hat, tx_app, lastS, if_pos h]
  rfl
theorem last_b {e : List Nat} (h : ¬ e.getD 0 0 = 33) (ha : ([Str.ofString "^", Str.ofString "["].any fun x => x == (⟨#[e.getD 0 0]⟩ : Str)) = true) : Str.ofString "\\" ++ tx e = tx (lastS e) := by
  rw [any_is] at ha
  rw [o_bs, lastS, if_neg h, if_pos ha]
  exact tx_app [92] e
theorem last_c {e : List Nat} (h : ¬ e.getD 0 0 = 33) (ha : ([Str.ofString "^", Str.ofString "["].any fun x => x == (⟨#[e.getD 0 0]⟩ : Str)) = false) : tx e = tx (lastS e) := by
  rw [lastS, if_neg h, if_neg]
  intro h2
  rw [(any_is _).mpr h2] at ha
  cases ha
theorem cut_k {m' : Str → Option Value} {j X : Int} {tj : Tok} (hj : m' (Str.ofString "k") = some (.int j tj)) (e : j = X) : ∀ p ∈ [(Str.ofString "k", Value.int X tj)], m' p.1 = some p.2 := by
  intro p hp
  rw [List.mem_singleton.mp hp, ← e]
  exact hj
theorem cut_s {m' : Str → Option Value} {y X : Str} {tj : Tok} (hj : m' (Str.ofString "stuff") = some (.str y tj)) (e : y = X) : ∀ p ∈ [(Str.ofString "stuff", Value.str X tj)], m' p.1 = some p.2 := by
  intro p hp
  rw [List.mem_singleton.mp hp, ← e]
  exact hj
theorem set_text {u : List Nat} (h : (setP u).text = 91 :: (lastS (u.flatMap esc2) ++ [93])) : Str.empty ++ Str.ofString "[" ++ tx (lastS (u.flatMap esc2)) ++ Str.ofString "]" = tx (setP u).text := by
  rw [Str.empty_append, o_lb, o_rb, h]
  show tx [91] ++ tx _ ++ tx [93] = _
  rw [tx_app, tx_app]
  simp
theorem lastS_len (e : List Nat) : (lastS e).length ≤ e.length + 1 := by
  unfold lastS
  split
  · simp
  · split <;> simp
theorem gen_pos {α : Type} {M : Model} {A : Around} {E : Value → Shared → Prop} {x : Sem α} {Q : α → Shared → Prop} {hp : Heap} {g : Array GenState} {d : Drawn} {n : Nat} {os : OsState} (hpos : 0 < n) (h : ∀ tk, 0 < tk → wpAny M A x Q E ⟨hp, g, d, tk, os⟩) : wpAny M A x Q E ⟨hp, g, d, n, os⟩ := h _ hpos
section
variable {prog : Program} {w : World} {A : Around} {E : Value → Shared → Prop} {s : Shared} {Q : Value → Shared → Prop}
theorem ij_notin {x y : Str} {t u : Tok} {b : Bool} (hb : Txt.contains x y = b) (h : Q (.bool (!b)) s) : wpAny (model prog w) A (compareOp .NotIn (.str y u) (.str x t)) Q E s :=
  PySem.P.notIn_str (by subst hb; exact h)
theorem ij_truthyS {x : Str} {t : Tok} {Q : Bool → Shared → Prop} (h1 : x.length ≤ 1000) (h0 : 0 < x.length) (h : Q true { s with toks := s.toks + 1 + 1 }) : wpAny (model prog w) A (truthy (.str x t)) Q E s :=
  PySem.P.truthy_str (by omega) (by rw [show ((x.length : Int) != 0) = true by simp; omega]; exact h)
theorem ij_eqN {x y : Str} {t u : Tok} (hxy : x ≠ y) (h : Q (.bool false) s) : wpAny (model prog w) A (compareOp .Eq (.str x t) (.str y u)) Q E s :=
  PyProof.Rows.eq_str (by rw [show (x == y) = false by simpa using hxy]; exact h)
theorem bs_ne : (Str.ofString "\\" == Str.ofString "\\\\") = false := by decide +kernel
theorem ij_replace {x y : Str} {t u v : Tok} (hu : 0 < u) (hv : v = u + 1) (hy : Txt.replace x (Str.ofString "\\") (Str.ofString "\\\\") = y) (hx : x.length ≤ 1000) (h : ∀ t' k, Q (.str y t') { s with toks := k }) :
    wpAny (model prog w) A (call (.builtin "str.replace") [.str x t, .str (Str.ofString "\\") u, .str (Str.ofString "\\\\") v]) Q E s :=
  SC.replaceW (Nat.ne_of_gt hu) (by subst hv; exact Nat.succ_ne_zero _) (by subst hv; exact Nat.ne_of_lt (Nat.lt_succ_self _)) bs_ne (by omega) (by decide +kernel) (by rw [hy]; exact h)
end
theorem N8get {h₀ h : Heap} {L : Addr} {news : List (Addr × Obj)} {a : Addr} {o : Obj} (N : News h₀ L h news) (hm : (a, o) ∈ news) : h.get? a = some o := (N _ hm).1
local macro_rules | `(tactic| walk_at "compareOp NotIn str str") => `(tactic| (k_here; refine ij_notin (by assumption) ?_))
local macro_rules | `(tactic| walk_at "truthy str") => `(tactic| (k_here; refine ij_truthyS (by assumption) (by assumption) ?_))
local macro_rules | `(tactic| walk_at "compareOp Eq str str") => `(tactic| (k_here; refine ij_eqN (by assumption) ?_))
local macro_rules | `(tactic| walk_at "subscriptTail Name Constant str int") => `(tactic| (k_here; refine ij_item (by omega) (by omega) (by assumption) ?_))
local macro_rules | `(tactic| walk_at "call builtin:str.find") => `(tactic| (k_here; refine ij_find4 (by omega) (by omega) (by omega) (by assumption) ?_))
local macro_rules | `(tactic| walk_at "call builtin:str.replace") => `(tactic| (k_here; refine ij_replace (by assumption) rfl (by assumption) (by assumption) ?_; intro t' k'))
local macro_rules | `(tactic| walk_at "call ref") => `(tactic| (k_here; (with_reducible show wpAny _ _ (call (Value.ref 55) [Value.str _ _]) _ _ _); k_dflt ((refine' calls_use (esc _ (by first | exact .a _ | exact .b _)) (by k_asm) (by k_asm) (by k_asm) (by k_asm) (by k_asm) (by first | exact rfl | assumption) (by ktr_room) (by ktr_units) ?_)); (intro r' nw' h' tk' F' N' hR'); obtain ⟨⟨t', e'⟩, e2'⟩ := hR'; subst e' e2'))
set_option maxHeartbeats 100000000 in
theorem c_tr {w p loose mean mg mb} (Lt : List Nat) (t tq : Tok) (st : Addr) (qm : Str) (ps0 : Array Value) (codes0 rest : List (Addr × Obj)) (rows : List Int) (hL : Lt.length ≤ 1000) (hLt : Lt = patT rows) (Tb : Tab qLam qGen ps0 codes0) (h57 : ∀ p ∈ codes0 ++ rest, p.1 ≠ 57) :
    CallsG w p loose mean mg mb 62 ((57, tabObj ps0) :: (codes0 ++ rest)) [.str ⟨Lt.toArray⟩ t, .ref st, .str qm tq] 6 (TrRet (trP rows) rest) := by
  unfold CallsG
  k_fill
  intro dp un gd cn cs a ccd cl outer A₀ base h₀ L m s Q E B F X K hB N T hk hdp hun hret
  have hLl : (⟨Lt.toArray⟩ : Str).length = Lt.length := rfl
  refine wpAny_call ?_
  k_dflt (((refine' code_def ?k1x91 ?k2x91 ?k3x91 ?k4x91 ?k5x91 ?kAx91 ?kFx91 ?kKx91 ?k6x91 ?k7x91 ?k8x91 ?k9x91 ?kBx91 ?_ ?c2x91 ?c3x91 ?c4x91 ?c5x91; (case kAx91 => exact rfl); (case kFx91 => exact rfl); (case kKx91 => first | assumption | exact rfl); (case k1x91 => k_asm); (case k2x91 => k_asm); (case k3x91 => k_asm); (case k4x91 => k_asm); (case k5x91 => k_asm); (case k6x91 => k_is); (case k7x91 => k_is); (case k8x91 => ktr_room); (case k9x91 => exact BindsTo.of_eq rfl); (case c5x91 => decide); (case kBx91 => exact locs rfl); (case c2x91 => exact rfl); (case c3x91 => exact rfl); (case c4x91 => exact rfl); k_whole; intro _ _ _ _ _ _ _ _ _; (try dsimp only); (walk_at "ij lift"); (try k_fold))); (rename Fr _ _ _ _ => lFe); replace lFe : Fr _ _ _ (fun y => List.lookup y [(Str.ofString "QUESTION_MARK", _), (Str.ofString "STAR", _), (Str.ofString "pat", _)]) := (by with_unfolding_all exact lFe); walk_at "ij hide")
  (repeat' ((fail_if_success (with_reducible show wpAny _ _ (PySem.exec (PySem.Stmt.While _ _ _ _) _) _ _ _)); first | (k_unfold; (try dsimp only)) | (k_end; wrow_close) | walk1 | (dsimp only; walk1) | (leave1; walk_say "STEP leave1"; try dsimp only) | fail "no step"))
  (rename Fr _ _ _ _ => lF'); (rename News _ _ _ _ => lN')
  rename_i tk1 l hA l1c hB tk2 xa hC l1b hD D0 hE l1a hF hG hH
  have hne : xa ≠ l := by (refine neN ?_; omega)
  have hl57 : l ≠ 57 := by (refine neN ?_; omega)
  have hx57 : xa ≠ 57 := by (refine neN ?_; omega)
  have hoff0 : OwnOff (codes0 ++ rest) [xa, l, 57] := off_cons l1b.2.2 (off_cons l1c.2 (fun p hp b hb => by rw [List.mem_singleton.mp hb]; exact h57 p hp))
  refine ijg_while (hE := by passes_own) (hB := by first | assumption | exact Subtype.property _) (σ := TrS) (fun c => (xa, boundApp l) :: (l, listOf c.vs.toArray c.n) :: (57, tabObj c.ps) :: (c.codes ++ rest)) (fun c => [(Str.ofString "i", .int c.pre.length c.tk)]) (TrInv Lt (trP rows) rest l xa)
    [Str.ofString "c", Str.ofString "j", Str.ofString "stuff", Str.ofString "chunks", Str.ofString "k", Str.ofString "chunk"] (fun c => Lt.length - c.pre.length)
    ⟨[], [], rows, [], [], 0, ps0, codes0, tk2 + 1 + 1⟩ lF' lN' ?hn ?hkk ?hp ?turn
  case hn => exact fun p hp => .tail _ hp
  case hkk => kst_all
  case hp => exact ⟨hLt, .inl rfl, .nil, rfl, Nat.le_refl _, Tb, hoff0⟩
  clear lF' lN'
  rintro ⟨pre, pend, rws, out, vs, nn, ps, codes, tki⟩ u h9 tk9 g9 ⟨i1, i2, i3, i4, i5, i6, i7⟩ F9 N9
  dsimp only at i1 i2 i3 i4 i5 i6 i7 F9 N9
  have hvl : vs.length ≤ 1000 := by rw [i1, List.length_append] at hL; omega
  rcases i2 with e | e | ⟨e, e2⟩
  · subst e
    by_cases e3 : rws = []
    · subst e3
      have hp0 : patT [] = [] := rfl
      rw [hp0] at i1
      have hlen : pre.length = Lt.length := by rw [i1]; simp
      (repeat' ((fail_if_success (with_reducible show wpAny _ _ (PySem.exec (PySem.Stmt.While _ _ _ _) _) _ _ _)); first | (k_unfold; (try dsimp only)) | (k_end; wrow_close) | walk1 | (dsimp only; walk1) | (leave1; walk_say "STEP leave1"; try dsimp only) | fail "no step"))
      rotate_left
      · exfalso; omega
      refine hret _ _ _ _ _ (by k_asm) (by k_asm) ⟨_, vs, nn, ps, codes, rfl, by walk_at "ij mem", ?_, hvl, i6, by walk_at "ij mem", fun p hp => ?_, fun p hp => ?_, fun p hp => i7 p hp 57 (.tail _ (.tail _ (.head _)))⟩
      · rw [← i4]; simpa [pendP, trP] using i3
      · exact .tail _ (.tail _ (.tail _ (List.mem_append_left _ hp)))
      · exact .tail _ (.tail _ (.tail _ (List.mem_append_right _ hp)))
    · rcases grp_step rws e3 with ⟨n, q1, q2, q3, q4⟩ | ⟨u, pend', rows', q1, q2, q3, q4⟩
      · rw [q3] at i1
        have hlen : Lt.length = pre.length + 3 := by rw [i1]; simp
        have hx : Lt[(pre.length : Int).toNat]? = some 91 := by rw [i1]; simp
        have hx1 : Lt[((pre.length : Int) + 1).toNat]? = some 33 := by rw [i1, show ((pre.length : Int) + 1).toNat = pre.length + 1 by omega]; simp
        have hx2 : Lt[((pre.length : Int) + 1 + 1).toNat]? = some 93 := by rw [i1, show ((pre.length : Int) + 1 + 1).toNat = pre.length + 2 by omega]; simp
        (repeat' ((fail_if_success (with_reducible show wpAny _ _ (PySem.exec (PySem.Stmt.While _ _ _ _) _) _ _ _)); first | (k_unfold; (try dsimp only)) | (k_end; wrow_close) | walk1 | (dsimp only; walk1) | (leave1; walk_say "STEP leave1"; try dsimp only) | fail "no step"))
        (rename Fr _ _ _ _ => lF2); (rename News _ _ _ _ => lN2)
        refine ij_while (hE := by passes_own) (σ := Unit) (fun _ => (xa, boundApp l) :: (l, listOf vs.toArray nn) :: (57, tabObj ps) :: (codes ++ rest)) (fun _ => []) (fun _ => True) [] (fun _ => 0) () lF2 lN2 ?hn2 (fun p hp => nomatch hp) trivial ?turn2
        case hn2 => (intro p hp; walk_at "ij mem")
        clear lF2 lN2
        rintro _ u2 h2 tk2 - F2 N2
        (repeat' ((fail_if_success (with_reducible show wpAny _ _ (PySem.exec (PySem.Stmt.While _ _ _ _) _) _ _ _)); first | (k_unfold; (try dsimp only)) | (k_end; wrow_close) | walk1 | (dsimp only; walk1) | (leave1; walk_say "STEP leave1"; try dsimp only) | fail "no step"))
        refine' tr_end (mid := [91]) (pend' := [33, 93]) (rows' := []) (p := loneP true 91) ?N ?F ?e1 ?e2 i3 ?e3 ?e4 ?e5 i5 i6 i7 ?m1 ?m2 ?m3 ?m4 ?k1 ?k2 ?k3
        case N => k_asm
        case F => k_asm
        case e1 => rw [i1]; simp [patT]
        case e2 => exact .inr (.inr ⟨rfl, rfl⟩)
        case e3 => exact b_lb
        case e4 => rw [← i4, q4]; simp [pendP, trP]
        case e5 => decide
        case m1 => walk_at "ij mem"
        case m2 => walk_at "ij mem"
        case m3 => walk_at "ij mem"
        case m4 => (intro p hp; walk_at "ij mem")
        case k1 => exact rfl
        case k2 => simp
        case k3 => ((intro z h2 h3; (simp only [List.forall_mem_cons, List.not_mem_nil, false_implies, implies_true, and_true, ne_eq] at h2); (simp only [List.contains_cons, List.contains_nil, Bool.or_false, Bool.or_eq_false_iff, beq_eq_false_iff_ne, ne_eq] at h3); (simp [kstB, h2, h3]; done)))
      · have G := grp_of q1
        rw [List.nil_append, q2] at i1
        have hlen : Lt.length = pre.length + 1 + u.length + 1 + (pend' ++ patT rows').length := by rw [i1]; simp; omega
        have hat : ∀ j, j < u.length → Lt[pre.length + 1 + j]? = some (u.getD j 0) := by
          intro j hj
          rw [i1, List.getElem?_append_right (by omega), show pre.length + 1 + j - pre.length = j + 1 by omega, List.getElem?_cons_succ, List.getElem?_append_left hj]
          simp [hj]
        have hend : Lt[pre.length + 1 + u.length]? = some 93 := by
          rw [i1, List.getElem?_append_right (by omega), show pre.length + 1 + u.length - pre.length = u.length + 1 by omega, List.getElem?_cons_succ, List.getElem?_append_right (Nat.le_refl _), Nat.sub_self]
          rfl
        have hu0 := G.ne
        have hx : Lt[(pre.length : Int).toNat]? = some 91 := by rw [i1]; simp
        have hx1 : Lt[((pre.length : Int) + 1).toNat]? = some (u.getD 0 0) := hat 0 G.ne
        (repeat' ((fail_if_success (with_reducible show wpAny _ _ (PySem.exec (PySem.Stmt.While _ _ _ _) _) _ _ _)); (fail_if_success (with_reducible show wpAny _ _ (PySem.exec (PySem.Stmt.If (PySem.Expr.BoolOp _ _ _) _ _ _) _) _ _ _)); (fail_if_success (with_reducible show wpAny _ _ (PySem.exec (PySem.Stmt.If (PySem.Expr.Compare _ [PySem.CmpOp.NotIn] _ _) _ _ _) _) _ _ _)); first | (k_unfold; (try dsimp only)) | (k_end; wrow_close) | walk1 | (dsimp only; walk1) | (leave1; walk_say "STEP leave1"; try dsimp only) | fail "no step"))
        (rename Fr _ _ _ _ => lF2); (rename News _ _ _ _ => lN2)
        refine ijg_cut (σ := Tok) (fun _ => (xa, boundApp l) :: (l, listOf vs.toArray nn) :: (57, tabObj ps) :: (codes ++ rest)) (fun c => [(Str.ofString "j", .int ((pre.length : Int) + 1 + k1 u) c)]) (fun _ => True) [] lF2 ?walk ?cont
        case walk =>
          (repeat' ((fail_if_success (with_reducible show wpAny _ _ (PySem.exec (PySem.Stmt.While _ _ _ _) _) _ _ _)); first | (k_unfold; (try dsimp only)) | (k_end; wrow_close) | walk1 | (dsimp only; walk1) | (leave1; walk_say "STEP leave1"; try dsimp only) | fail "no step"))
          all_goals skip
          · refine' ij_at _ ?F ?N ?m4 (cut_j ?k1 ?k2) ?k3 trivial
            case F => k_asm
            case N => k_asm
            case m4 => (intro p hp; walk_at "ij mem")
            case k1 => exact rfl
            case k2 => (rw [show k1 u = 1 from if_pos (by assumption)]; omega)
            case k3 => ((intro z h2 h3; (simp only [List.forall_mem_cons, List.not_mem_nil, false_implies, implies_true, and_true, ne_eq] at h2); (simp only [List.contains_cons, List.contains_nil, Bool.or_false, Bool.or_eq_false_iff, beq_eq_false_iff_ne, ne_eq] at h3); (simp [kstB, h2, h3]; done)))
          · refine' ij_at _ ?F ?N ?m4 (cut_j ?k1 ?k2) ?k3 trivial
            case F => k_asm
            case N => k_asm
            case m4 => (intro p hp; walk_at "ij mem")
            case k1 => exact rfl
            case k2 => (rw [show k1 u = 0 from if_neg (by assumption)]; omega)
            case k3 => ((intro z h2 h3; (simp only [List.forall_mem_cons, List.not_mem_nil, false_implies, implies_true, and_true, ne_eq] at h2); (simp only [List.contains_cons, List.contains_nil, Bool.or_false, Bool.or_eq_false_iff, beq_eq_false_iff_ne, ne_eq] at h3); (simp [kstB, h2, h3]; done)))
        case cont =>
          clear lF2 lN2
          intro tj1 u1 h1 tk1' g1 _ F1 N1
          have hx2 : Lt[((pre.length : Int) + 1 + (k1 u : Int)).toNat]? = some (u.getD (k1 u) 0) := by
            rw [show ((pre.length : Int) + 1 + (k1 u : Int)).toNat = pre.length + 1 + k1 u by omega]; exact hat _ G.k1l
          have hk1l := G.k1l
          (repeat' ((fail_if_success (with_reducible show wpAny _ _ (PySem.exec (PySem.Stmt.While _ _ _ _) _) _ _ _)); (fail_if_success (with_reducible show wpAny _ _ (PySem.exec (PySem.Stmt.If (PySem.Expr.BoolOp _ _ _) _ _ _) _) _ _ _)); (fail_if_success (with_reducible show wpAny _ _ (PySem.exec (PySem.Stmt.If (PySem.Expr.Compare _ [PySem.CmpOp.NotIn] _ _) _ _ _) _) _ _ _)); first | (k_unfold; (try dsimp only)) | (k_end; wrow_close) | walk1 | (dsimp only; walk1) | (leave1; walk_say "STEP leave1"; try dsimp only) | fail "no step"))
          (rename Fr _ _ _ _ => lF2); (rename News _ _ _ _ => lN2)
          refine ijg_cut (σ := Tok) (fun _ => (xa, boundApp l) :: (l, listOf vs.toArray nn) :: (57, tabObj ps) :: (codes ++ rest)) (fun c => [(Str.ofString "j", .int ((pre.length : Int) + 1 + sk u) c)]) (fun _ => True) [] lF2 ?walk ?cont
          case walk =>
            (repeat' ((fail_if_success (with_reducible show wpAny _ _ (PySem.exec (PySem.Stmt.While _ _ _ _) _) _ _ _)); first | (k_unfold; (try dsimp only)) | (k_end; wrow_close) | walk1 | (dsimp only; walk1) | (leave1; walk_say "STEP leave1"; try dsimp only) | fail "no step"))
            all_goals skip
            · refine' ij_at _ ?F ?N ?m4 (cut_j ?k1 ?k2) ?k3 trivial
              case F => k_asm
              case N => k_asm
              case m4 => (intro p hp; walk_at "ij mem")
              case k1 => exact rfl
              case k2 => (rw [show sk u = k1 u + 1 from congrArg (k1 u + ·) (if_pos (by assumption))]; omega)
              case k3 => ((intro z h2 h3; (simp only [List.forall_mem_cons, List.not_mem_nil, false_implies, implies_true, and_true, ne_eq] at h2); (simp only [List.contains_cons, List.contains_nil, Bool.or_false, Bool.or_eq_false_iff, beq_eq_false_iff_ne, ne_eq] at h3); (simp [kstB, h2, h3]; done)))
            · refine' ij_at _ ?F ?N ?m4 (cut_j ?k1 ?k2) ?k3 trivial
              case F => k_asm
              case N => k_asm
              case m4 => (intro p hp; walk_at "ij mem")
              case k1 => exact rfl
              case k2 => (rw [show sk u = k1 u + 0 from congrArg (k1 u + ·) (if_neg (by assumption))]; omega)
              case k3 => ((intro z h2 h3; (simp only [List.forall_mem_cons, List.not_mem_nil, false_implies, implies_true, and_true, ne_eq] at h2); (simp only [List.contains_cons, List.contains_nil, Bool.or_false, Bool.or_eq_false_iff, beq_eq_false_iff_ne, ne_eq] at h3); (simp [kstB, h2, h3]; done)))
          case cont =>
            clear lF2 lN2
            intro tj2 u2 h2 tk2' g2 _ F2 N2
            (repeat' ((fail_if_success (with_reducible show wpAny _ _ (PySem.exec (PySem.Stmt.While _ _ _ _) _) _ _ _)); (fail_if_success (with_reducible show wpAny _ _ (PySem.exec (PySem.Stmt.If (PySem.Expr.BoolOp _ _ _) _ _ _) _) _ _ _)); (fail_if_success (with_reducible show wpAny _ _ (PySem.exec (PySem.Stmt.If (PySem.Expr.Compare _ [PySem.CmpOp.NotIn] _ _) _ _ _) _) _ _ _)); first | (k_unfold; (try dsimp only)) | (k_end; wrow_close) | walk1 | (dsimp only; walk1) | (leave1; walk_say "STEP leave1"; try dsimp only) | fail "no step"))
            (rename Fr _ _ _ _ => lF2); (rename News _ _ _ _ => lN2)
            refine ij_while (hE := by passes_own) (σ := JS) (fun _ => (xa, boundApp l) :: (l, listOf vs.toArray nn) :: (57, tabObj ps) :: (codes ++ rest)) (fun c => [(Str.ofString "j", .int c.j c.tk)]) (fun c => (pre.length : Int) + 1 + sk u ≤ c.j ∧ c.j ≤ (pre.length : Int) + 1 + u.length) [] (fun c => ((pre.length : Int) + 1 + u.length - c.j).toNat) ⟨(pre.length : Int) + 1 + sk u, tj2⟩ lF2 lN2 ?hn3 ?hkk3 ?hp3 ?turn3
            case hn3 => (intro p hp; walk_at "ij mem")
            case hkk3 => kst_all
            case hp3 => exact ⟨Int.le_refl _, by have := G.skl; dsimp only; omega⟩
            clear lF2 lN2
            rintro ⟨j, tj3⟩ u3 h3 tk3' ⟨j1, j2⟩ F3 N3
            dsimp only at j1 j2 F3 N3
            rcases Int.lt_or_le j ((pre.length : Int) + 1 + u.length) with hj | hj
            · obtain ⟨jj, hjj⟩ : ∃ jj : Nat, j = (pre.length : Int) + 1 + jj := ⟨(j - pre.length - 1).toNat, by omega⟩
              have hx3 : Lt[j.toNat]? = some (u.getD jj 0) := by
                rw [hjj, show ((pre.length : Int) + 1 + (jj : Int)).toNat = pre.length + 1 + jj by omega]; exact hat _ (by omega)
              have hn3 := G.off jj (by omega) (by omega)
              (repeat' ((fail_if_success (with_reducible show wpAny _ _ (PySem.exec (PySem.Stmt.While _ _ _ _) _) _ _ _)); first | (k_unfold; (try dsimp only)) | (k_end; wrow_close) | walk1 | (dsimp only; walk1) | (leave1; walk_say "STEP leave1"; try dsimp only) | fail "no step"))
              refine' ij_end ⟨j + 1, ?tk4⟩ ?F4 ?N4 ?hn4 ?hk4 ?hr4 ?hp4 ?hm4
              case F4 => k_asm
              case N4 => k_asm
              case hn4 => (intro p hp; walk_at "ij mem")
              case hk4 => kst_all
              case hr4 => ((intro z h2 h3; (simp only [List.forall_mem_cons, List.not_mem_nil, false_implies, implies_true, and_true, ne_eq] at h2); (simp only [List.contains_cons, List.contains_nil, Bool.or_false, Bool.or_eq_false_iff, beq_eq_false_iff_ne, ne_eq] at h3); (simp [kstB, h2, h3]; done)))
              case hp4 => exact ⟨by dsimp only; omega, by dsimp only; omega⟩
              case hm4 => (dsimp only; omega)
            · have hje : j = (pre.length : Int) + 1 + u.length := by omega
              subst hje
              have hx3 : Lt[((pre.length : Int) + 1 + (u.length : Int)).toNat]? = some 93 := by
                rw [show ((pre.length : Int) + 1 + (u.length : Int)).toNat = pre.length + 1 + u.length by omega]; exact hend
              have hst : Txt.slice ⟨Lt.toArray⟩ (some ((pre.length : Int) + 1)) (some ((pre.length : Int) + 1 + u.length)) = tx u := by
                rw [slice_ss ⟨by omega, by omega, by omega⟩, show ((pre.length : Int) + 1 + u.length - (pre.length + 1)).toNat = u.length by omega, show ((pre.length : Int) + 1).toNat = pre.length + 1 by omega, i1]
                simp
              (repeat' ((fail_if_success (with_reducible show wpAny _ _ (PySem.exec (PySem.Stmt.While _ _ _ _) _) _ _ _)); (fail_if_success (with_reducible show wpAny _ _ (PySem.exec (PySem.Stmt.If (PySem.Expr.BoolOp _ _ _) _ _ _) _) _ _ _)); (fail_if_success (with_reducible show wpAny _ _ (PySem.exec (PySem.Stmt.If (PySem.Expr.Compare _ [PySem.CmpOp.NotIn] _ _) _ _ _) _) _ _ _)); first | (k_unfold; (try dsimp only)) | (k_end; wrow_close) | walk1 | (dsimp only; walk1) | (leave1; walk_say "STEP leave1"; try dsimp only) | fail "no step"))
              (rename Fr _ _ _ _ => lF2); (rename News _ _ _ _ => lN2)
              rw [hst] at lF2
              refine ijg_cut (σ := CuS) (fun c => (xa, boundApp l) :: (l, listOf vs.toArray nn) :: (57, tabObj c.ps) :: (c.codes ++ rest)) (fun c => [(Str.ofString "stuff", .str (tx (u.flatMap esc1)) c.t)]) (fun c => Tab qLam qGen c.ps c.codes ∧ OwnOff (c.codes ++ rest) [xa, l, 57]) [Str.ofString "chunks", Str.ofString "k", Str.ofString "chunk", Str.ofString "i"] lF2 ?walk5 ?cont5
              case walk5 =>
                rcases hd : u.contains 45 with _ | _
                · have hr := G.rep hd
                  have hcon := G.con
                  rw [hd] at hcon
                  have hul : (tx u).length ≤ 1000 := by have := G.len; show u.length ≤ 1000; omega
                  (repeat' ((fail_if_success (with_reducible show wpAny _ _ (PySem.execs (PySem.Stmt.Assign _ _ _ :: _) _) _ _ _)); first | (k_unfold; (try dsimp only)) | (k_end; wrow_close) | walk1 | (dsimp only; walk1) | (leave1; walk_say "STEP leave1"; try dsimp only) | fail "no step"))
                  refine gen_pos (Nat.succ_pos _) ?_
                  intro tk0 htk0
                  (repeat' ((fail_if_success (with_reducible show wpAny _ _ (PySem.exec (PySem.Stmt.While _ _ _ _) _) _ _ _)); first | (k_unfold; (try dsimp only)) | (k_end; wrow_close) | walk1 | (dsimp only; walk1) | (leave1; walk_say "STEP leave1"; try dsimp only) | fail "no step"))
                  refine' ij_at ⟨ps, codes, ?t6⟩ ?F6 ?N6 ?hn6 ?hk6 ?hr6 ⟨i6, i7⟩
                  case F6 => k_asm
                  case N6 => k_asm
                  case hn6 => (intro p hp; walk_at "ij mem")
                  case hk6 => kst_all
                  case hr6 => ((intro z h2 h3; (simp only [List.forall_mem_cons, List.not_mem_nil, false_implies, implies_true, and_true, ne_eq] at h2); (simp only [List.contains_cons, List.contains_nil, Bool.or_false, Bool.or_eq_false_iff, beq_eq_false_iff_ne, ne_eq] at h3); (simp [kstB, h2, h3]; done)))
                · have hcon := G.con
                  rw [hd] at hcon
                  have ty : (u.length = 1 + k1 u) ∨ (4 ≤ u.length ∧ k1 u = 1) := by rcases G.dash hd with rfl | rfl | rfl | rfl <;> simp [k1]
                  (repeat' ((fail_if_success (with_reducible show wpAny _ _ (PySem.exec (PySem.Stmt.Assign _ (PySem.Expr.IfExp _ _ _ _) _) _) _ _ _)); first | (k_unfold; (try dsimp only)) | (k_end; wrow_close) | walk1 | (dsimp only; walk1) | (leave1; walk_say "STEP leave1"; try dsimp only) | fail "no step"))
                  (rename Fr _ _ _ _ => lD); (rename News _ _ _ _ => lND)
                  rename_i D hD1 lDlt hD2
                  refine ijg_cut (σ := TkS) (fun _ => (D, listOf (List.toArray []) 0) :: (xa, boundApp l) :: (l, listOf vs.toArray nn) :: (57, tabObj ps) :: (codes ++ rest)) (fun c => [(Str.ofString "k", .int ((pre.length : Int) + 1 + k1 u + 1) c.t)]) (fun _ => True) [] lD ?walkD ?contD
                  case walkD =>
                    (repeat' ((fail_if_success (with_reducible show wpAny _ _ (PySem.exec (PySem.Stmt.While _ _ _ _) _) _ _ _)); first | (k_unfold; (try dsimp only)) | (k_end; wrow_close) | walk1 | (dsimp only; walk1) | (leave1; walk_say "STEP leave1"; try dsimp only) | fail "no step"))
                    · refine' ij_at ⟨_⟩ ?F ?N ?m4 (cut_k ?k1 ?k2) ?k3 trivial
                      case F => k_asm
                      case N => k_asm
                      case m4 => (intro p hp; walk_at "ij mem")
                      case k1 => exact rfl
                      case k2 => (rw [show k1 u = 1 from if_pos (by assumption)]; omega)
                      case k3 => ((intro z h2 h3; (simp only [List.forall_mem_cons, List.not_mem_nil, false_implies, implies_true, and_true, ne_eq] at h2); (simp only [List.contains_cons, List.contains_nil, Bool.or_false, Bool.or_eq_false_iff, beq_eq_false_iff_ne, ne_eq] at h3); (simp [kstB, h2, h3]; done)))
                    · refine' ij_at ⟨_⟩ ?F ?N ?m4 (cut_k ?k1 ?k2) ?k3 trivial
                      case F => k_asm
                      case N => k_asm
                      case m4 => (intro p hp; walk_at "ij mem")
                      case k1 => exact rfl
                      case k2 => (rw [show k1 u = 0 from if_neg (by assumption)]; omega)
                      case k3 => ((intro z h2 h3; (simp only [List.forall_mem_cons, List.not_mem_nil, false_implies, implies_true, and_true, ne_eq] at h2); (simp only [List.contains_cons, List.contains_nil, Bool.or_false, Bool.or_eq_false_iff, beq_eq_false_iff_ne, ne_eq] at h3); (simp [kstB, h2, h3]; done)))
                  case contD =>
                    clear lD lND
                    rintro ⟨tk12⟩ u12 h12 tk12' g12 - F12 N12
                    dsimp only at F12 N12
                    have hDxa : D ≠ xa := by (refine neN ?_; omega)
                    have hDl : D ≠ l := by (refine neN ?_; omega)
                    have hD57 : D ≠ 57 := by (refine neN ?_; omega)
                    have hoffD : OwnOff (codes ++ rest) [D, xa, l, 57] := off_cons lDlt.2.2.2 i7
                    (repeat' ((fail_if_success (with_reducible show wpAny _ _ (PySem.exec (PySem.Stmt.While _ _ _ _) _) _ _ _)); first | (k_unfold; (try dsimp only)) | (k_end; wrow_close) | walk1 | (dsimp only; walk1) | (leave1; walk_say "STEP leave1"; try dsimp only) | fail "no step"))
                    (rename Fr _ _ _ _ => lD); (rename News _ _ _ _ => lND)
                    refine ijg_cut (σ := ChS) (fun c => (D, listOf c.cvs.toArray c.n) :: (xa, boundApp l) :: (l, listOf vs.toArray nn) :: (57, tabObj ps) :: (codes ++ rest)) (fun c => [(Str.ofString "k", .int c.k c.tk), (Str.ofString "i", .int c.i c.ti)]) (ChEnd pre u) [] lD ?walkE ?contE
                    case walkE =>
                      have hone : (Str.ofString "-").length = 1 := by decide +kernel
                      have hkl := G.k1l
                      have hdl : u.getD (u.length - 1) 0 = 45 ∧ (∀ jj, jj < u.length - 1 → (u.getD jj 0 == 45) = false) ∧ u.dropLast ++ [45] = u := by rcases G.dash hd with rfl | rfl | rfl | rfl <;> decide
                      refine ij_while (hE := by passes_own) (σ := ChS) (fun c => (D, listOf c.cvs.toArray c.n) :: (xa, boundApp l) :: (l, listOf vs.toArray nn) :: (57, tabObj ps) :: (codes ++ rest)) (fun c => [(Str.ofString "k", .int c.k c.tk), (Str.ofString "i", .int c.i c.ti)]) (ChI pre u) [] (fun c => 1 - c.cvs.length) ⟨(pre.length : Int) + 1 + k1 u + 1, tk12, (pre.length : Int) + 1, tk9 + 1 + 1 + 1, [], 0⟩ lD lND ?hn13 ?hkk13 ?hp13 ?turn13
                      case hn13 => (intro p hp; walk_at "ij mem")
                      case hkk13 => kst_all
                      case hp13 => exact .inl ⟨rfl, rfl, rfl⟩
                      clear lD lND
                      rintro ⟨k, tkk, i, tii, cvs, cn⟩ u13 h13 tk13 hinv F13 N13
                      dsimp only at F13 N13
                      rcases hinv with ⟨f1, f2, f3⟩ | ⟨f0, f4, f1, f2, tq5, f3⟩
                      · dsimp only at f1 f2 f3
                        subst f1 f2 f3
                        rcases ty with ty | ⟨ty, ty2⟩
                        · have hf : (match Builtin.Str.occurrences ⟨Lt.toArray⟩ (Str.ofString "-") ((pre.length : Int) + 1 + k1 u + 1).toNat ((pre.length : Int) + 1 + u.length).toNat 1 with | k :: _ => (k : Int) | [] => -1) = -1 := by
                            rw [occ_no (fun i h1 h2 => by rw [hone] at h2; omega)]
                          (repeat' ((fail_if_success (with_reducible show wpAny _ _ (PySem.exec (PySem.Stmt.While _ _ _ _) _) _ _ _)); first | (k_unfold; (try dsimp only)) | (k_end; wrow_close) | walk1 | (dsimp only; walk1) | (leave1; walk_say "STEP leave1"; try dsimp only) | fail "no step"))
                          dsimp only [IjPost]
                          refine' ij_at ⟨-1, ?kt14, (pre.length : Int) + 1, tii, [], cn⟩ ?F14 ?N14 ?hn14 ?hk14 ?hr14 (.inl ⟨ty, rfl, rfl⟩)
                          case F14 => k_asm
                          case N14 => k_asm
                          case hn14 => (intro p hp; walk_at "ij mem")
                          case hk14 => kst_all
                          case hr14 => ((intro z h2 h3; (simp only [List.forall_mem_cons, List.not_mem_nil, false_implies, implies_true, and_true, ne_eq] at h2); (simp only [List.contains_cons, List.contains_nil, Bool.or_false, Bool.or_eq_false_iff, beq_eq_false_iff_ne, ne_eq] at h3); (simp [kstB, h2, h3]; done)))
                        · have hf : (match Builtin.Str.occurrences ⟨Lt.toArray⟩ (Str.ofString "-") ((pre.length : Int) + 1 + k1 u + 1).toNat ((pre.length : Int) + 1 + u.length).toNat 1 with | k :: _ => (k : Int) | [] => -1) = (pre.length : Int) + u.length := by
                            obtain ⟨tl, e⟩ := occ_yes (x := ⟨Lt.toArray⟩) (y := Str.ofString "-") (lo := ((pre.length : Int) + 1 + k1 u + 1).toNat) (hi := ((pre.length : Int) + 1 + u.length).toNat) (d := pre.length + 1 + (u.length - 1)) (by omega) (by rw [hone]; omega) (by rw [sub_dash (hat _ (by omega)), hdl.1]; rfl) (fun i h1 h2 => by
                              obtain ⟨jj, rfl⟩ : ∃ jj, i = pre.length + 1 + jj := ⟨i - pre.length - 1, by omega⟩
                              rw [sub_dash (hat jj (by omega))]
                              exact hdl.2.1 jj (by omega))
                            rw [e]
                            show ((pre.length + 1 + (u.length - 1) : Nat) : Int) = _
                            omega
                          have hsl : Txt.slice ⟨Lt.toArray⟩ (some ((pre.length : Int) + 1)) (some ((pre.length : Int) + u.length)) = tx u.dropLast := by
                            rw [slice_ss ⟨by omega, by omega, by omega⟩, show ((pre.length : Int) + u.length - (pre.length + 1)).toNat = u.length - 1 by omega, show ((pre.length : Int) + 1).toNat = pre.length + 1 by omega, i1, List.dropLast_eq_take]
                            simp
                            rw [List.take_append_of_le_length (by omega)]
                          (repeat' ((fail_if_success (with_reducible show wpAny _ _ (PySem.exec (PySem.Stmt.While _ _ _ _) _) _ _ _)); first | (k_unfold; (try dsimp only)) | (k_end; wrow_close) | walk1 | (dsimp only; walk1) | (leave1; walk_say "STEP leave1"; try dsimp only) | fail "no step"))
                          (rename News _ _ _ _ => lN15)
                          rw [hsl] at lN15
                          refine' ij_end ⟨(pre.length : Int) + u.length + 3, ?kt15, (pre.length : Int) + u.length + 1, ?it15, [.str (tx u.dropLast) ?st15], cn + 1⟩ ?F15 ?N15 ?hn15 ?hk15 ?hr15 (.inr ⟨ty, ty2, by dsimp only; omega, by dsimp only; omega, _, rfl⟩) (by simp)
                          case F15 => k_asm
                          case N15 => k_asm
                          case hn15 => (intro p hp; walk_at "ij mem")
                          case hk15 => kst_all
                          case hr15 => ((intro z h2 h3; (simp only [List.forall_mem_cons, List.not_mem_nil, false_implies, implies_true, and_true, ne_eq] at h2); (simp only [List.contains_cons, List.contains_nil, Bool.or_false, Bool.or_eq_false_iff, beq_eq_false_iff_ne, ne_eq] at h3); (simp [kstB, h2, h3]; done)))
                      · dsimp only at f1 f2 f3
                        subst f1 f2 f3
                        have hf : (match Builtin.Str.occurrences ⟨Lt.toArray⟩ (Str.ofString "-") ((pre.length : Int) + 1 + u.length + 2).toNat ((pre.length : Int) + 1 + u.length).toNat 1 with | k :: _ => (k : Int) | [] => -1) = -1 := by
                          rw [occ_no (fun i h1 h2 => by rw [hone] at h2; omega)]
                        (repeat' ((fail_if_success (with_reducible show wpAny _ _ (PySem.exec (PySem.Stmt.While _ _ _ _) _) _ _ _)); first | (k_unfold; (try dsimp only)) | (k_end; wrow_close) | walk1 | (dsimp only; walk1) | (leave1; walk_say "STEP leave1"; try dsimp only) | fail "no step"))
                        dsimp only [IjPost]
                        refine' ij_at ⟨-1, ?kt16, (pre.length : Int) + 1 + u.length, tii, [.str (tx u.dropLast) tq5], cn⟩ ?F16 ?N16 ?hn16 ?hk16 ?hr16 (.inr ⟨f0, f4, rfl, _, rfl⟩)
                        case F16 => k_asm
                        case N16 => k_asm
                        case hn16 => (intro p hp; walk_at "ij mem")
                        case hk16 => kst_all
                        case hr16 => ((intro z h2 h3; (simp only [List.forall_mem_cons, List.not_mem_nil, false_implies, implies_true, and_true, ne_eq] at h2); (simp only [List.contains_cons, List.contains_nil, Bool.or_false, Bool.or_eq_false_iff, beq_eq_false_iff_ne, ne_eq] at h3); (simp [kstB, h2, h3]; done)))
                    case contE =>
                      clear lD lND
                      rintro ⟨k17, tk17, i17, ti17, cvs, cn⟩ u17 h17 tk17' g17 hE17 F17 N17
                      dsimp only at F17 N17
                      have hdl : u.dropLast ++ [45] = u := by rcases G.dash hd with rfl | rfl | rfl | rfl <;> decide
                      have hsz4 : (tx u).length ≤ 1000 := by show u.length ≤ 1000; omega
                      have hsp4 : 0 < (tx u).length := hu0
                      have hdl4 : (tx u.dropLast).length ≤ 1000 := by show u.dropLast.length ≤ 1000; rw [List.length_dropLast]; omega
                      have hsl2 : Txt.slice ⟨Lt.toArray⟩ (some ((pre.length : Int) + 1 + u.length)) (some ((pre.length : Int) + 1 + u.length)) = Str.empty := by
                        rw [slice_ss ⟨by omega, by omega, by omega⟩, show ((pre.length : Int) + 1 + u.length - (pre.length + 1 + u.length)).toNat = 0 by omega]
                        simp [Str.empty]
                      (repeat' ((fail_if_success (with_reducible show wpAny _ _ (PySem.exec (PySem.Stmt.If (PySem.Expr.Name _ _) _ _ _) _) _ _ _)); first | (k_unfold; (try dsimp only)) | (k_end; wrow_close) | walk1 | (dsimp only; walk1) | (leave1; walk_say "STEP leave1"; try dsimp only) | fail "no step"))
                      (rename Fr _ _ _ _ => lD); (rename News _ _ _ _ => lND)
                      refine ijg_cut (σ := ChT) (fun c => (D, listOf (List.toArray [.str (tx u) c.t]) c.n) :: (xa, boundApp l) :: (l, listOf vs.toArray nn) :: (57, tabObj ps) :: (codes ++ rest)) (fun _ => []) (fun _ => True) [] lD ?walkH ?contH
                      case walkH =>
                        rcases hE17 with ⟨e1, e2, e3⟩ | ⟨e0, e4, e2, tq5, e3⟩
                        · dsimp only at e1 e2 e3
                          subst e2 e3
                          rw [hst] at lD
                          (repeat' ((fail_if_success (with_reducible show wpAny _ _ (PySem.exec (PySem.Stmt.While _ _ _ _) _) _ _ _)); first | (k_unfold; (try dsimp only)) | (k_end; wrow_close) | walk1 | (dsimp only; walk1) | (leave1; walk_say "STEP leave1"; try dsimp only) | fail "no step"))
                          refine' ij_at ⟨?kt18, cn + 1⟩ ?F18 ?N18 ?hn18 ?hk18 ?hr18 trivial
                          case F18 => k_asm
                          case N18 => k_asm
                          case hn18 => (intro p hp; walk_at "ij mem")
                          case hk18 => exact fun p hp => nomatch hp
                          case hr18 => exact fun z _ _ => by rw [hst]
                        · dsimp only at e2 e3
                          subst e2 e3
                          rw [hsl2] at lD
                          (repeat' ((fail_if_success (with_reducible show wpAny _ _ (PySem.exec (PySem.Stmt.While _ _ _ _) _) _ _ _)); first | (k_unfold; (try dsimp only)) | (k_end; wrow_close) | walk1 | (dsimp only; walk1) | (leave1; walk_say "STEP leave1"; try dsimp only) | fail "no step"))
                          (rename News _ _ _ _ => lN19)
                          rw [show tx u.dropLast ++ Str.ofString "-" = tx u by rw [o_dash]; exact (tx_app _ [45]).trans (congrArg tx hdl)] at lN19
                          refine' ij_at ⟨?kt19, cn⟩ ?F19 ?N19 ?hn19 ?hk19 ?hr19 trivial
                          case F19 => k_asm
                          case N19 => k_asm
                          case hn19 => (intro p hp; walk_at "ij mem")
                          case hk19 => exact fun p hp => nomatch hp
                          case hr19 => exact fun z _ _ => by rw [hsl2]
                      case contH =>
                        clear lD lND
                        rintro ⟨tch, cn20⟩ u20 h20 tk20 g20 - F20 N20
                        dsimp only at F20 N20
                        (repeat' ((fail_if_success (with_reducible show wpAny _ _ (PySem.eval (PySem.Expr.GeneratorExp _ _ _ _) _) _ _ _)); first | (k_unfold; (try dsimp only)) | (k_end; wrow_close) | walk1 | (dsimp only; walk1) | (leave1; walk_say "STEP leave1"; try dsimp only) | fail "no step"))
                        (rename Fr _ _ _ _ => lG); (rename News _ _ _ _ => lNG); (rename Top _ _ _ _ _ _ => lTG)
                        have hocc0 : (Builtin.Str.occurrences (tx u) (Str.ofString "\\") 0 (tx u).length ((tx u).length + 1)).isEmpty = true := by rcases G.dash hd with rfl | rfl | rfl | rfl <;> decide +kernel
                        have hrep0 : Txt.replace (tx u) (Str.ofString "-") (Str.ofString "\\-") = tx (u.flatMap esc1) := by rcases G.dash hd with rfl | rfl | rfl | rfl <;> decide +kernel
                        refine gen_make (hB := by first | assumption | exact Subtype.property _) (codes := codes) (rest := (D, listOf (List.toArray [.str (tx u) tch]) cn20) :: (xa, boundApp l) :: (l, listOf vs.toArray nn) :: rest) (xs := tx u) (y := tx (u.flatMap esc1)) (D := D) (t0 := tch) lG (fun q hq => lNG q (perm3 hq)) (ne_perm3 hoffD hD57 hx57 hl57) lTG (by kn_code) rfl i6 rfl ⟨rfl, rfl⟩ (List.mem_append_right _ (.head _)) rfl rfl rfl (by decide) rfl rfl rfl (by ktr_room) ?hiter ?helt ?hcont (fun _ => rfl)
                        case hiter =>
                          (repeat' ((fail_if_success (with_reducible show wpAny _ _ (PySem.exec (PySem.Stmt.While _ _ _ _) _) _ _ _)); first | (k_unfold; (try dsimp only)) | (k_end; wrow_close) | walk1 | (dsimp only; walk1) | (leave1; walk_say "STEP leave1"; try dsimp only) | fail "no step"))
                        case helt =>
                          intro A' E' s₂ m₂ C' code bi hh21 hns21 hm21
                          refine MethodCall_ (MethodCall_ (wpAny_Name (wpAny_loadName_local rfl rfl hns21 hm21 ?_) (by decide)))
                          refine GM.replace ?_
                          clear lG lNG
                          walk1
                          walk1
                          walk1
                          walk1
                          walk1
                          walk1
                          refine ij_replace0 hocc0 ?_
                          refine GM.replace ?_
                          walk1
                          walk1
                          walk1
                          walk1
                          walk1
                          walk1
                          refine SC.replaceW (Nat.succ_ne_zero _) (Nat.succ_ne_zero _) (Nat.ne_of_lt (Nat.lt_succ_self _)) dn_dash (by omega) (by decide +kernel) fun t23 k23 => ?_
                          rw [hrep0]
                          exact ⟨⟨_, rfl⟩, _, _, rfl, fun _ _ e => e⟩
                        case hcont =>
                          intro g22 h22 tk22 gs22 ps22 codes22 F22 N22 Tb22 hne22 hold22 G22
                          clear lG lNG
                          walk1
                          have hel := esc1_len u
                          have hul := G.len
                          refine gen_join (hB := by first | assumption | exact Subtype.property _) F22 N22 G22 (by show (u.flatMap esc1).length + 1 ≤ 100000; omega) fun h23 gs23 tk23 t23 F23 N23 => ?_
                          clear F22 N22 G22
                          (repeat' ((fail_if_success (with_reducible show wpAny _ _ (PySem.exec (PySem.Stmt.While _ _ _ _) _) _ _ _)); first | (k_unfold; (try dsimp only)) | (k_end; wrow_close) | walk1 | (dsimp only; walk1) | (leave1; walk_say "STEP leave1"; try dsimp only) | fail "no step"))
                          refine' ij_at ⟨ps22, codes22, t23⟩ ?F24 ?N24 ?hn24 ?hk24 ?hr24 ⟨Tb22, off_new3 i7 hne22 hold22⟩
                          case F24 => k_asm
                          case N24 => k_asm
                          case hn24 => exact fun q hq => perm4 hq
                          case hk24 => kst_all
                          case hr24 => ((intro z h2 h3; (simp only [List.forall_mem_cons, List.not_mem_nil, false_implies, implies_true, and_true, ne_eq] at h2); (simp only [List.contains_cons, List.contains_nil, Bool.or_false, Bool.or_eq_false_iff, beq_eq_false_iff_ne, ne_eq] at h3); (simp [kstB, h2, h3]; done)))
              case cont5 =>
                clear lF2 lN2
                rintro ⟨ps5, codes5, t5⟩ u5 h5 tk5 g5 ⟨Tb5, Off5⟩ F5 N5
                dsimp only at Tb5 Off5 F5 N5
                (repeat' ((fail_if_success (with_reducible show wpAny _ _ (PySem.exec (PySem.Stmt.Assign _ _ _) _) _ _ _)); first | (k_unfold; (try dsimp only)) | (k_end; wrow_close) | walk1 | (dsimp only; walk1) | (leave1; walk_say "STEP leave1"; try dsimp only) | fail "no step"))
                (rename Fr _ _ _ _ => lF2); (rename News _ _ _ _ => lN2)
                refine ijg_cut (σ := CuS) (fun c => (xa, boundApp l) :: (l, listOf vs.toArray nn) :: (57, tabObj c.ps) :: (c.codes ++ rest)) (fun c => [(Str.ofString "stuff", .str (tx (u.flatMap esc2)) c.t)]) (fun c => Tab qLam qGen c.ps c.codes ∧ OwnOff (c.codes ++ rest) [xa, l, 57]) [] lF2 ?walk7 ?cont7
                case walk7 =>
                  (repeat' ((fail_if_success (with_reducible show wpAny _ _ (PySem.eval (PySem.Expr.Lambda _ _ _ _) _) _ _ _)); first | (k_unfold; (try dsimp only)) | (k_end; wrow_close) | walk1 | (dsimp only; walk1) | (leave1; walk_say "STEP leave1"; try dsimp only) | fail "no step"))
                  (rename Fr _ _ _ _ => lF7); (rename (laid.heap_1 w.params).In _ => lX7)
                  refine gm_sub (w := w) (lX7.keeps lF7.keep) ?_
                  (repeat' ((fail_if_success (with_reducible show wpAny _ _ (PySem.eval (PySem.Expr.Lambda _ _ _ _) _) _ _ _)); first | (k_unfold; (try dsimp only)) | (k_end; wrow_close) | walk1 | (dsimp only; walk1) | (leave1; walk_say "STEP leave1"; try dsimp only) | fail "no step"))
                  (rename News _ _ _ _ => lN7)
                  refine kla_eval rfl ?_
                  refine tab_lam (codes := codes5) (rest := (xa, boundApp l) :: (l, listOf vs.toArray nn) :: rest) lF7 (fun q hq => lN7 q (perm1 hq)) (ne_perm Off5 hx57 hl57) (by k_asm) (by kn_code) rfl Tb5 ⟨rfl, rfl⟩ rfl fun f c' oc cvs ct ctv ps8 codes8 h8 tk8 F8 N8 Tb8 hco hd8 hv8 hne8 hltf hltf2 hold => ?_
                  have Off8 := off_new Off5 hne8 hold
                  clear lF7 lN7
                  have hel := esc1_len u
                  have hul := G.len
                  have hsz : (tx (u.flatMap esc1)).cps.size ≤ 1000 := by show (u.flatMap esc1).length ≤ 1000; omega
                  have hsp : 0 < (tx (u.flatMap esc1)).cps.size := by show 0 < (u.flatMap esc1).length; omega
                  (repeat' ((fail_if_success (with_reducible show wpAny _ _ (PySem.exec (PySem.Stmt.While _ _ _ _) _) _ _ _)); first | (k_unfold; (try dsimp only)) | (k_end; wrow_close) | walk1 | (dsimp only; walk1) | (leave1; walk_say "STEP leave1"; try dsimp only) | fail "no step"))
                  rcases hs : (u.flatMap esc1).any spB with _ | _
                  · rw [G.sp0 hs]
                    refine sub_none lX7 F8 N8 (.head _) rfl hsz hsp (sp_none hs) fun h9 tk9' t9 F9' N9' => ?_
                    clear F8 N8
                    (repeat' ((fail_if_success (with_reducible show wpAny _ _ (PySem.exec (PySem.Stmt.While _ _ _ _) _) _ _ _)); first | (k_unfold; (try dsimp only)) | (k_end; wrow_close) | walk1 | (dsimp only; walk1) | (leave1; walk_say "STEP leave1"; try dsimp only) | fail "no step"))
                    refine' ij_at ⟨ps8, codes8, t9⟩ ?F6 ?N6 ?hn6 ?hk6 ?hr6 ⟨Tb8, Off8⟩
                    case F6 => k_asm
                    case N6 => k_asm
                    case hn6 => exact fun q hq => .tail _ (perm2 hq)
                    case hk6 => kst_all
                    case hr6 => ((intro z h2 h3; (simp only [List.forall_mem_cons, List.not_mem_nil, false_implies, implies_true, and_true, ne_eq] at h2); (simp only [List.contains_cons, List.contains_nil, Bool.or_false, Bool.or_eq_false_iff, beq_eq_false_iff_ne, ne_eq] at h3); (simp [kstB, h2, h3]; done)))
                  · obtain ⟨w1, w2, w3⟩ := G.sp1 hs
                    rw [w3]
                    obtain ⟨v1, v2, v3, v4, v5⟩ := sp_last (by intro e; rw [e] at hsp; exact Nat.lt_irrefl _ hsp) w1 w2
                    refine sub_hit lX7 F8 N8 (.head _) rfl v1 hsz (y := ⟨#[92, (u.flatMap esc1).getLastD 0]⟩) (Nat.le_trans (Nat.le_refl 2) (by decide)) v2 v3 ?lamok fun h9 tk9' t9 F9' N9' => ?fin
                    case lamok =>
                      intro its n7 l7 mt tp s7 Q7 E7 Fc Nc y1 y2 y3 hq7
                      clear F8 N8
                      refine wpAny_call ?_
                      k_dflt (refine' kla_code ?k1 ?k2 ?k3 ?k4 ?k5 ?kA ?kF ?kK ?k6 ?k7 ?k8 ?k9 ?kB ?_ ?c2 ?c3 ?c4 ?c5; (case kA => exact rfl); (case kF => exact rfl); (case kK => exact rfl); (case k1 => k_asm); (case k2 => k_asm); (case k3 => k_asm); (case k4 => k_asm); (case k5 => k_asm); (case k6 => k_mem); (case k7 => exact codeRec_news Nc (.tail _ (.tail _ (.tail _ (.tail _ (.tail _ (List.mem_append_left _ hco)))))) hd8 hv8); (case k8 => ktr_room); (case k9 => exact rfl); (case c5 => decide); (case kB => exact locs rfl); (case c2 => exact rfl); (case c3 => exact rfl); (case c4 => exact rfl); k_whole; intro g' L' h' FG' F' N' B' X' T'; (try dsimp only); (try k_lift B'); (try k_fold))
                      (repeat' ((fail_if_success (with_reducible show wpAny _ _ (PySem.getMethod (Value.ref _) _ _) _ _ _)); (fail_if_success (with_reducible show wpAny _ _ (PySem.call (Value.builtin _) _ _) _ _ _)); first | (k_unfold; (try dsimp only)) | (k_end; wrow_close) | walk1 | (dsimp only; walk1) | (leave1; walk_say "STEP leave1"; try dsimp only) | fail "no step"))
                      (rename News _ _ _ _ => lN8)
                      refine gm_gr (N8get lN8 (.head _)) ?_
                      (repeat' ((fail_if_success (with_reducible show wpAny _ _ (PySem.getMethod (Value.ref _) _ _) _ _ _)); (fail_if_success (with_reducible show wpAny _ _ (PySem.call (Value.builtin _) _ _) _ _ _)); first | (k_unfold; (try dsimp only)) | (k_end; wrow_close) | walk1 | (dsimp only; walk1) | (leave1; walk_say "STEP leave1"; try dsimp only) | fail "no step"))
                      (rename News _ _ _ _ => lN9)
                      refine call_gr (N8get lN9 (.head _)) (N8get lN9 (.tail _ (.head _))) hsz fun t8 tk9'' => ?_
                      rw [v5]
                      (repeat' ((fail_if_success (with_reducible show wpAny _ _ (PySem.exec (PySem.Stmt.While _ _ _ _) _) _ _ _)); first | (k_unfold; (try dsimp only)) | (k_end; wrow_close) | walk1 | (dsimp only; walk1) | (leave1; walk_say "STEP leave1"; try dsimp only) | fail "no step"))
                      rotate_left
                      · exfalso; omega
                      rw [show Str.ofString "\\" ++ ⟨#[(u.flatMap esc1).getLastD 0]⟩ = (⟨#[92, (u.flatMap esc1).getLastD 0]⟩ : Str) by rw [o_bs]; exact tx_app [92] _]
                      exact hq7 _ _ _ (by k_asm) (by k_asm)
                    case fin =>
                      clear F8 N8
                      rw [v4]
                      (repeat' ((fail_if_success (with_reducible show wpAny _ _ (PySem.exec (PySem.Stmt.While _ _ _ _) _) _ _ _)); first | (k_unfold; (try dsimp only)) | (k_end; wrow_close) | walk1 | (dsimp only; walk1) | (leave1; walk_say "STEP leave1"; try dsimp only) | fail "no step"))
                      refine' ij_at ⟨ps8, codes8, t9⟩ ?F6 ?N6 ?hn6 ?hk6 ?hr6 ⟨Tb8, Off8⟩
                      case F6 => k_asm
                      case N6 => k_asm
                      case hn6 => exact fun q hq => .tail _ (perm2 hq)
                      case hk6 => kst_all
                      case hr6 => ((intro z h2 h3; (simp only [List.forall_mem_cons, List.not_mem_nil, false_implies, implies_true, and_true, ne_eq] at h2); (simp only [List.contains_cons, List.contains_nil, Bool.or_false, Bool.or_eq_false_iff, beq_eq_false_iff_ne, ne_eq] at h3); (simp [kstB, h2, h3]; done)))
                case cont7 =>
                  clear lF2 lN2
                  rintro ⟨ps8, codes8, t8⟩ u8 h8 tk8 g8 ⟨Tb8, Off8⟩ F8 N8
                  dsimp only at Tb8 Off8 F8 N8
                  have hel2 := esc2_len u
                  have hul := G.len
                  have hsz2 : (tx (u.flatMap esc2)).length ≤ 1000 := by show (u.flatMap esc2).length ≤ 1000; omega
                  have hsp2 : 0 < (tx (u.flatMap esc2)).length := by show 0 < (u.flatMap esc2).length; omega
                  have hn33 : tx (u.flatMap esc2) ≠ Str.ofString "!" := by rw [s_bang]; intro e; exact G.one (by injection e with e; injection e)
                  have hx9 : (u.flatMap esc2)[(0 : Int).toNat]? = some ((u.flatMap esc2).getD 0 0) := by
                    have : 0 < (u.flatMap esc2).length := hsp2
                    rw [List.getD_eq_getElem?_getD, List.getElem?_eq_getElem (show (0 : Int).toNat < _ from this), List.getElem?_eq_getElem (show 0 < _ from this)]; rfl
                  have hlen9 : (u.flatMap esc2).length ≤ 1000 := hsz2
                  (repeat' ((fail_if_success (with_reducible show wpAny _ _ (PySem.exec (PySem.Stmt.If (PySem.Expr.Compare (PySem.Expr.Subscript _ _ _) _ _ _) _ _ _) _) _ _ _)); first | (k_unfold; (try dsimp only)) | (k_end; wrow_close) | walk1 | (dsimp only; walk1) | (leave1; walk_say "STEP leave1"; try dsimp only) | fail "no step"))
                  (rename Fr _ _ _ _ => lF9); (rename News _ _ _ _ => lN9)
                  refine ijg_cut (σ := TkS) (fun _ => (xa, boundApp l) :: (l, listOf vs.toArray nn) :: (57, tabObj ps8) :: (codes8 ++ rest)) (fun c => [(Str.ofString "stuff", .str (tx (lastS (u.flatMap esc2))) c.t)]) (fun _ => True) [] lF9 ?walk11 ?cont11
                  case walk11 =>
                    (repeat' ((fail_if_success (with_reducible show wpAny _ _ (PySem.exec (PySem.Stmt.While _ _ _ _) _) _ _ _)); first | (k_unfold; (try dsimp only)) | (k_end; wrow_close) | walk1 | (dsimp only; walk1) | (leave1; walk_say "STEP leave1"; try dsimp only) | fail "no step"))
                    · refine' ij_at ⟨_⟩ ?F ?N ?m4 (cut_s ?k1 ?k2) ?k3 trivial
                      case F => k_asm
                      case N => k_asm
                      case m4 => (intro p hp; walk_at "ij mem")
                      case k1 => exact rfl
                      case k2 => exact last_a hsp2 (by assumption)
                      case k3 => ((intro z h2 h3; (simp only [List.forall_mem_cons, List.not_mem_nil, false_implies, implies_true, and_true, ne_eq] at h2); (simp only [List.contains_cons, List.contains_nil, Bool.or_false, Bool.or_eq_false_iff, beq_eq_false_iff_ne, ne_eq] at h3); (simp [kstB, h2, h3]; done)))
                    · refine' ij_at ⟨_⟩ ?F ?N ?m4 (cut_s ?k1 ?k2) ?k3 trivial
                      case F => k_asm
                      case N => k_asm
                      case m4 => (intro p hp; walk_at "ij mem")
                      case k1 => exact rfl
                      case k2 => exact last_b (by assumption) (by assumption)
                      case k3 => ((intro z h2 h3; (simp only [List.forall_mem_cons, List.not_mem_nil, false_implies, implies_true, and_true, ne_eq] at h2); (simp only [List.contains_cons, List.contains_nil, Bool.or_false, Bool.or_eq_false_iff, beq_eq_false_iff_ne, ne_eq] at h3); (simp [kstB, h2, h3]; done)))
                    · refine' ij_at ⟨_⟩ ?F ?N ?m4 (cut_s ?k1 ?k2) ?k3 trivial
                      case F => k_asm
                      case N => k_asm
                      case m4 => (intro p hp; walk_at "ij mem")
                      case k1 => exact rfl
                      case k2 => exact last_c (by assumption) (by assumption)
                      case k3 => ((intro z h2 h3; (simp only [List.forall_mem_cons, List.not_mem_nil, false_implies, implies_true, and_true, ne_eq] at h2); (simp only [List.contains_cons, List.contains_nil, Bool.or_false, Bool.or_eq_false_iff, beq_eq_false_iff_ne, ne_eq] at h3); (simp [kstB, h2, h3]; done)))
                  case cont11 =>
                    clear lF9 lN9
                    rintro ⟨t11⟩ u11 h11 tk11 g11 - F11 N11
                    dsimp only at F11 N11
                    have hll := lastS_len (u.flatMap esc2)
                    have hsz3 : (tx (lastS (u.flatMap esc2))).length ≤ 1000 := by show (lastS (u.flatMap esc2)).length ≤ 1000; omega
                    (repeat' ((fail_if_success (with_reducible show wpAny _ _ (PySem.exec (PySem.Stmt.While _ _ _ _) _) _ _ _)); first | (k_unfold; (try dsimp only)) | (k_end; wrow_close) | walk1 | (dsimp only; walk1) | (leave1; walk_say "STEP leave1"; try dsimp only) | fail "no step"))
                    refine' tr_end (mid := 91 :: (u ++ [93])) (pend' := pend') (rows' := rows') (p := setP u) ?N ?F ?e1 q3 i3 ?e3 ?e4 ?e5 i5 Tb8 Off8 ?m1 ?m2 ?m3 ?m4 ?k1 ?k2 ?k3
                    case N => k_asm
                    case F => k_asm
                    case e1 => rw [i1]; simp
                    case e3 => exact set_text G.txt
                    case e4 => rw [← i4, q4]; simp [pendP]
                    case e5 => simp
                    case m1 => walk_at "ij mem"
                    case m2 => walk_at "ij mem"
                    case m3 => walk_at "ij mem"
                    case m4 => (intro p hp; walk_at "ij mem")
                    case k1 => exact rfl
                    case k2 => (simp only [List.length_cons, List.length_append, List.length_nil]; omega)
                    case k3 => ((intro z h2 h3; (simp only [List.forall_mem_cons, List.not_mem_nil, false_implies, implies_true, and_true, ne_eq] at h2); (simp only [List.contains_cons, List.contains_nil, Bool.or_false, Bool.or_eq_false_iff, beq_eq_false_iff_ne, ne_eq] at h3); (simp [kstB, h2, h3]; done)))
  · subst e
    have hlen : Lt.length = pre.length + 1 + (patT rws).length := by rw [i1]; simp; omega
    have hx : Lt[(pre.length : Int).toNat]? = some 93 := by rw [i1]; simp
    (repeat' ((fail_if_success (with_reducible show wpAny _ _ (PySem.exec (PySem.Stmt.While _ _ _ _) _) _ _ _)); first | (k_unfold; (try dsimp only)) | (k_end; wrow_close) | walk1 | (dsimp only; walk1) | (leave1; walk_say "STEP leave1"; try dsimp only) | fail "no step"))
    refine' tr_end (mid := [93]) (pend' := []) (rows' := rws) (p := loneP true 93) ?N ?F ?e1 ?e2 i3 ?e3 ?e4 ?e5 i5 i6 i7 ?m1 ?m2 ?m3 ?m4 ?k1 ?k2 ?k3
    case N => k_asm
    case F => k_asm
    case e1 => rw [i1]; simp
    case e2 => exact .inl rfl
    case e3 => rfl
    case e4 => rw [← i4]; simp [pendP]
    case e5 => decide
    case m1 => walk_at "ij mem"
    case m2 => walk_at "ij mem"
    case m3 => walk_at "ij mem"
    case m4 => (intro p hp; walk_at "ij mem")
    case k1 => exact rfl
    case k2 => simp
    case k3 => ((intro z h2 h3; (simp only [List.forall_mem_cons, List.not_mem_nil, false_implies, implies_true, and_true, ne_eq] at h2); (simp only [List.contains_cons, List.contains_nil, Bool.or_false, Bool.or_eq_false_iff, beq_eq_false_iff_ne, ne_eq] at h3); (simp [kstB, h2, h3]; done)))
  · subst e e2
    have hp0 : patT [] = [] := rfl
    rw [hp0] at i1
    have hlen : Lt.length = pre.length + 2 := by rw [i1]; simp
    have hx : Lt[(pre.length : Int).toNat]? = some 33 := by rw [i1]; simp
    (repeat' ((fail_if_success (with_reducible show wpAny _ _ (PySem.exec (PySem.Stmt.While _ _ _ _) _) _ _ _)); first | (k_unfold; (try dsimp only)) | (k_end; wrow_close) | walk1 | (dsimp only; walk1) | (leave1; walk_say "STEP leave1"; try dsimp only) | fail "no step"))
    refine' tr_end (mid := [33]) (pend' := [93]) (rows' := []) (p := loneP false 33) ?N ?F ?e1 ?e2 i3 ?e3 ?e4 ?e5 i5 i6 i7 ?m1 ?m2 ?m3 ?m4 ?k1 ?k2 ?k3
    case N => k_asm
    case F => k_asm
    case e1 => rw [i1, hp0]; simp
    case e2 => exact .inr (.inl rfl)
    case e3 => rfl
    case e4 => rw [← i4]; simp [pendP]
    case e5 => decide
    case m1 => walk_at "ij mem"
    case m2 => walk_at "ij mem"
    case m3 => walk_at "ij mem"
    case m4 => (intro p hp; walk_at "ij mem")
    case k1 => exact rfl
    case k2 => simp
    case k3 => ((intro z h2 h3; (simp only [List.forall_mem_cons, List.not_mem_nil, false_implies, implies_true, and_true, ne_eq] at h2); (simp only [List.contains_cons, List.contains_nil, Bool.or_false, Bool.or_eq_false_iff, beq_eq_false_iff_ne, ne_eq] at h3); (simp [kstB, h2, h3]; done)))
open PySem PySem.W PyProof.Rows PySem.Spec PySem.Calls
noncomputable def TlRet (rows : List Int) (rest : List (Addr × Obj)) (r : Value) (news' : List (Addr × Obj)) : Prop :=
  ∃ t' ps' codes', r = .str ⟨(frameT (trP rows)).toArray⟩ t' ∧ Tab qLam qGen ps' codes' ∧ (∀ q ∈ (57, tabObj ps') :: (codes' ++ rest), q ∈ news') ∧ ∀ p ∈ codes' ++ rest, p.1 ≠ 57
section
variable {h₀ h : Heap} {L st li P : Addr} {o oS ol : Obj} {codes codes' rest nw : List (Addr × Obj)}
theorem tl_ne (hst : st ≠ P) (h : ∀ p ∈ codes ++ rest, p.1 ≠ P) : ∀ p ∈ codes ++ (st, oS) :: rest, p.1 ≠ P := by
  intro p hp
  rcases List.mem_append.mp hp with hp | hp
  · exact h p (List.mem_append_left _ hp)
  · rcases List.mem_cons.mp hp with rfl | hp
    · exact hst
    · exact h p (List.mem_append_right _ hp)
theorem tl_perm {q : Addr × Obj} (h : q ∈ (P, o) :: (codes ++ (st, oS) :: rest)) : q ∈ (st, oS) :: (P, o) :: (codes ++ rest) := by
  rcases List.mem_cons.mp h with rfl | h
  · exact .tail _ (.head _)
  · rcases List.mem_append.mp h with h | h
    · exact .tail _ (.tail _ (List.mem_append_left _ h))
    · rcases List.mem_cons.mp h with rfl | h
      · exact .head _
      · exact .tail _ (.tail _ (List.mem_append_right _ h))
theorem tl_news (N : News h₀ L h nw) (h1 : (li, ol) ∈ nw) (h2 : (P, o) ∈ nw) (h3 : ∀ p ∈ codes, p ∈ nw) (h4 : ∀ p ∈ (st, oS) :: rest, p ∈ nw) : News h₀ L h ((li, ol) :: (P, o) :: (codes ++ (st, oS) :: rest)) := by
  intro q hq
  refine N q ?_
  rcases List.mem_cons.mp hq with rfl | hq
  · exact h1
  · rcases List.mem_cons.mp hq with rfl | hq
    · exact h2
    · rcases List.mem_append.mp hq with hq | hq
      · exact h3 q hq
      · exact h4 q hq
theorem tl_sub {q : Addr × Obj} (h : q ∈ codes ++ rest) : q ∈ codes ++ (st, oS) :: rest := by
  rcases List.mem_append.mp h with h | h
  · exact List.mem_append_left _ h
  · exact List.mem_append_right _ (.tail _ h)
theorem tl_back {q : Addr × Obj} (h : q ∈ (P, o) :: (codes ++ rest)) : q ∈ (li, ol) :: (P, o) :: (codes ++ (st, oS) :: rest) := by
  rcases List.mem_cons.mp h with rfl | h
  · exact .tail _ (.head _)
  · exact .tail _ (.tail _ (tl_sub h))
end
local macro_rules | `(tactic| walk_at "call type:object") => `(tactic| (k_here; k_dflt (refine' ij_obj (by k_asm) (by k_asm) ?_); intro x' h' F' N' l1; (try k_lt l1)))
theorem c_trl {w p loose mean mg mb} (Lt : List Nat) (t : Tok) (ps0 : Array Value) (codes0 rest : List (Addr × Obj)) (rows : List Int) (hL : rows.length ≤ 8) (hLt : Lt = patT rows) (Tb : Tab qLam qGen ps0 codes0) (h57 : ∀ p ∈ codes0 ++ rest, p.1 ≠ 57) :
    CallsG w p loose mean mg mb 43 ((57, tabObj ps0) :: (codes0 ++ rest)) [.str ⟨Lt.toArray⟩ t] 8 (TlRet rows rest) := by
  unfold CallsG
  k_fill
  intro dp un gd cn cs a ccd cl outer A₀ base h₀ L m s Q E B F X K hB N T hk hdp hun hret
  refine wpAny_call ?_
  k_dflt (((refine' code_def ?k1x152 ?k2x152 ?k3x152 ?k4x152 ?k5x152 ?kAx152 ?kFx152 ?kKx152 ?k6x152 ?k7x152 ?k8x152 ?k9x152 ?kBx152 ?_ ?c2x152 ?c3x152 ?c4x152 ?c5x152; (case kAx152 => exact rfl); (case kFx152 => exact rfl); (case kKx152 => first | assumption | exact rfl); (case k1x152 => k_asm); (case k2x152 => k_asm); (case k3x152 => k_asm); (case k4x152 => k_asm); (case k5x152 => k_asm); (case k6x152 => k_is); (case k7x152 => k_is); (case k8x152 => ktr_room); (case k9x152 => exact BindsTo.of_eq rfl); (case c5x152 => decide); (case kBx152 => exact locs rfl); (case c2x152 => exact rfl); (case c3x152 => exact rfl); (case c4x152 => exact rfl); k_whole; intro _ _ _ _ _ _ _ _ _; (try dsimp only); (walk_at "ij lift"); (try k_fold))); (rename Fr _ _ _ _ => lFe); replace lFe : Fr _ _ _ (fun y => List.lookup y [(Str.ofString "pat", _)]) := (by with_unfolding_all exact lFe); walk_at "ij hide")
  (repeat' ((fail_if_success (with_reducible show wpAny _ _ (PySem.call (Value.ref 62) _) _ _ _)); (fail_if_success (with_reducible show wpAny _ _ (PySem.call (Value.ref 69) _) _ _ _)); first | (k_unfold; (try dsimp only)) | (k_end; wrow_close) | walk1 | (dsimp only; walk1) | (leave1; walk_say "STEP leave1"; try dsimp only) | fail "no step"))
  (rename Fr _ _ _ _ => lF'); (rename News _ _ _ _ => lN')
  rename_i st hA l1 hB1
  have hst57 : st ≠ 57 := by (refine neN ?_; omega)
  have hpl := (trP_all rows).2
  have hpt : Lt.length ≤ 1000 := by rw [hLt]; have := patT_len rows; omega
  refine' callsG_use (c_tr Lt t _ st _ ps0 codes0 ((st, ({ cls := .type "object" } : Obj)) :: rest) rows hpt hLt Tb (tl_ne hst57 h57)) ?k1 ?k2 ?k3 ?k4 ?k5 ?k6 ?k7 ?k8 ?k9 ?kB ?_
  (case k1 => k_asm); (case k2 => k_asm); (case k3 => k_asm); (case k4 => assumption); (case k5 => exact fun q hq => lN' q (tl_perm hq)); (case k6 => k_asm); (case k7 => first | exact rfl | assumption); (case k8 => ktr_room); (case k9 => ktr_units); (case kB => assumption)
  clear lF' lN'
  intro r nw h5 tk5 g5 F5 N5 hR5
  obtain ⟨li, vs, n, ps', codes', e5, m1, m2, m3, Tb', m57, mc, mr, hne⟩ := hR5
  subst e5
  have N6 := tl_news N5 m1 m57 mc mr
  clear N5
  have h0 : (Str.ofString "").length = 0 := by decide +kernel
  (repeat' ((fail_if_success (with_reducible show wpAny _ _ (PySem.call (Value.ref 62) _) _ _ _)); (fail_if_success (with_reducible show wpAny _ _ (PySem.call (Value.ref 69) _) _ _ _)); first | (k_unfold; (try dsimp only)) | (k_end; wrow_close) | walk1 | (dsimp only; walk1) | (leave1; walk_say "STEP leave1"; try dsimp only) | fail "no step"))
  have hsum : (((trP rows).map fun p => tx p.text).map (·.length)).sum + ((trP rows).map fun p => tx p.text).length * (Str.ofString "").length ≤ 16777216 := by
    rw [pieces_len, h0, Nat.mul_zero]; omega
  refine' calls_use (c_join _ li st vs n _ (.head _) m2 (.tail _ (.tail _ (List.mem_append_right _ (.head _)))) m3 hsum (psT (trP rows)) (join_pieces _) (by omega)) ?k1 ?k2 ?k3 ?k4 ?k5 ?k6 ?k7 ?k8 ?_
  (case k1 => k_asm); (case k2 => k_asm); (case k3 => k_asm); (case k4 => k_asm); (case k5 => k_asm); (case k6 => first | exact rfl | assumption); (case k7 => ktr_room); (case k8 => ktr_units)
  intro r7 nw7 h7 tk7 F7 N7 hR7
  obtain ⟨⟨t7, e7⟩, hs7⟩ := hR7
  subst e7
  (repeat' ((fail_if_success (with_reducible show wpAny _ _ (PySem.call (Value.ref 62) _) _ _ _)); (fail_if_success (with_reducible show wpAny _ _ (PySem.call (Value.ref 69) _) _ _ _)); first | (k_unfold; (try dsimp only)) | (k_end; wrow_close) | walk1 | (dsimp only; walk1) | (leave1; walk_say "STEP leave1"; try dsimp only) | fail "no step"))
  exact hret _ _ _ _ g5 (by k_asm) (by k_asm) ⟨t7, ps', codes', rfl, Tb', fun q hq => hs7 q (tl_back hq), fun q hq => hne q (tl_sub hq)⟩
open PySem PySem.W PyProof.Rows PySem.Spec PySem.Calls
structure RowS where
  D : Addr
  ys : List Value
  row : List Int
  n : Nat
noncomputable def RowI (c : RowS) : Prop := IntsAre c.ys c.row ∧ c.row.length ≤ 8 ∧ (∀ n ∈ c.row, n < 2048) ∧ c.D ≠ 57
theorem row_small {l : List Int} : ∀ n ∈ l.map (fun k' : Int => if -2048 < k' ∧ k' < 2048 then k' else if -2048 < k' ∧ ¬k' < 2048 then k'.fmod 2048 else k'.fmod 2048), n < 2048 := by
  intro n hn
  obtain ⟨k, _, rfl⟩ := List.mem_map.mp hn
  split
  · omega
  · rw [fm _ (by decide)]; split <;> omega
theorem row_dflt : ∀ n ∈ ([33, 1, 29, 221] : List Int), n < 2048 := by decide
noncomputable def Thing (_ : Nat) (v y : Value) : Prop := ∃ n t, v = .int n t ∧ ((∃ t', y = .int n t') ∨ (0 ≤ n ∧ ∃ t', y = .str ⟨#[n.toNat]⟩ t'))
theorem ints_at : ∀ {vs : List Value} {row : List Int}, IntsAre vs row → ∀ {i : Nat} {v : Value}, vs[i]? = some v → ∃ n t, v = .int n t ∧ row[i]? = some n
  | _, _, .nil, _, _, h => by simp at h
  | _, _, .cons n t r, 0, v, h => ⟨n, t, by simpa using h.symm, rfl⟩
  | _, _, .cons n t r, i + 1, v, h => by simpa using ints_at r (i := i) (by simpa using h)
theorem thing_at {ys zs : List Value} {row : List Int} (h1 : IntsAre ys row) (h2 : EnIs Thing ys zs) {i : Nat} {v : Value} (hv : zs[i]? = some v) :
    ∃ n, row[i]? = some n ∧ ∃ t, v = .int n t ∨ (0 ≤ n ∧ v = .str ⟨#[n.toNat]⟩ t) := by
  have hi : i < ys.length := by rw [← h2.1]; exact (List.getElem?_eq_some_iff.mp hv).1
  obtain ⟨y, hy, n, t, e, h3⟩ := h2.2 i _ (List.getElem?_eq_getElem hi)
  rw [hv] at hy
  cases hy
  obtain ⟨n', t', e', hr⟩ := ints_at h1 (List.getElem?_eq_getElem hi)
  rw [e] at e'
  injection e' with e' _
  subst e'
  refine ⟨n, hr, ?_⟩
  rcases h3 with ⟨t', rfl⟩ | ⟨h0, t', rfl⟩
  · exact ⟨t', .inl rfl⟩
  · exact ⟨t', .inr ⟨h0, rfl⟩⟩
noncomputable def PlainP (xs : List Str) (i : Nat) (_ y : Value) : Prop := ∀ x, xs[i]? = some x → ∃ t, y = .str x t
theorem strs_of : ∀ {its ys : List Value} {xs : List Str}, its.length = xs.length → EnIs (PlainP xs) its ys → StrsAre ys xs
  | [], [], [], _, _ => .nil
  | [], _ :: _, [], _, h => by have := h.1; simp at this
  | _ :: _, [], _ :: _, _, h => by have := h.1; simp at this
  | v :: its, y :: ys, x :: xs, hl, h => by
    obtain ⟨y', hy, hp⟩ := h.2 0 v rfl
    cases hy
    obtain ⟨t, rfl⟩ := hp x rfl
    refine .cons x t (strs_of (its := its) (by simpa using hl) ⟨by have := h.1; simpa using this, fun i v hv => ?_⟩)
    obtain ⟨y', hy, hp⟩ := h.2 (i + 1) v (by simpa using hv)
    exact ⟨y', by simpa using hy, fun x hx => hp x (by simpa using hx)⟩
theorem cut_r {m' : Str → Option Value} {X : Addr} {x : Str} (hj : m' x = some (.ref X)) : ∀ p ∈ [(x, Value.ref X)], m' p.1 = some p.2 := by
  intro p hp
  rw [List.mem_singleton.mp hp]
  exact hj
theorem el_text {row : List Int} {i : Nat} {x : Int} {z : Str} {f : Int → List Nat} {u : List Nat} (hr : row[i]? = some x) (hz : (row.map fun n => tx (91 :: (f n ++ [93])))[i]? = some z) (hu : f x = u) :
    Str.ofString "[" ++ tx u ++ Str.ofString "]" = z := by
  rw [List.getElem?_map, hr] at hz
  cases hz
  rw [o_lb, o_rb]
  show tx [91] ++ tx u ++ tx [93] = tx (91 :: (f x ++ [93]))
  rw [tx_app, tx_app, hu]; simp
theorem patT_sum : ∀ row : List Int, ((row.map fun n => tx (91 :: (uText n ++ [93]))).map (·.length)).sum = (patT row).length
  | [] => rfl
  | n :: row => by
    rw [List.map_cons, List.map_cons, List.sum_cons, patT_sum row, patT_cons]
    show (91 :: (uText n ++ [93])).length + _ = _
    simp; omega
theorem len_empty : (Str.ofString "").length = 0 := by decide +kernel
theorem tab_nil : Tab qLam qGen #[] [] := ⟨trivial, .inl fun _ _ _ => rfl, .inl fun _ _ _ => rfl⟩
section
variable {a b c P : Addr} {oa ob oc o o' : Obj} {codes nw : List (Addr × Obj)} {h₀ h : Heap} {L : Addr}
theorem ne57 (ha : a ≠ P) (hb : b ≠ P) (hc : c ≠ P) : ∀ p ∈ [] ++ [(a, oa), (b, ob), (c, oc)], p.1 ≠ P := by
  intro p hp
  rcases List.mem_cons.mp hp with rfl | hp
  · exact ha
  · rcases List.mem_cons.mp hp with rfl | hp
    · exact hb
    · rw [List.mem_singleton.mp hp]; exact hc
theorem perm57 {q : Addr × Obj} (h : q ∈ (P, o) :: ([] ++ [(a, oa), (b, ob), (c, oc)])) : q ∈ [(a, oa), (b, ob), (c, oc), (P, o)] := by
  rcases List.mem_cons.mp h with rfl | h
  · exact .tail _ (.tail _ (.tail _ (.head _)))
  · rcases List.mem_cons.mp h with rfl | h
    · exact .head _
    · rcases List.mem_cons.mp h with rfl | h
      · exact .tail _ (.head _)
      · rw [List.mem_singleton.mp h]; exact .tail _ (.tail _ (.head _))
theorem back57 (N : News h₀ L h nw) (hs : ∀ q ∈ (P, o') :: (codes ++ [(a, oa), (b, ob), (c, oc)]), q ∈ nw) : News h₀ L h ((b, ob) :: (c, oc) :: (P, o') :: codes) := by
  intro q hq
  refine N q (hs q ?_)
  rcases List.mem_cons.mp hq with rfl | hq
  · exact .tail _ (List.mem_append_right _ (.tail _ (.head _)))
  · rcases List.mem_cons.mp hq with rfl | hq
    · exact .tail _ (List.mem_append_right _ (.tail _ (.tail _ (.head _))))
    · rcases List.mem_cons.mp hq with rfl | hq
      · exact .head _
      · exact .tail _ (List.mem_append_left _ hq)
theorem tail57 (h : ∀ p ∈ codes ++ [(a, oa), (b, ob), (c, oc)], p.1 ≠ P) : ∀ p ∈ codes, p.1 ≠ P := fun p hp => h p (List.mem_append_left _ hp)
theorem ne57' (h : ∀ p ∈ codes, p.1 ≠ P) (ha : a ≠ P) (hb : b ≠ P) (hc : c ≠ P) : ∀ p ∈ codes ++ [(a, oa), (b, ob), (c, oc)], p.1 ≠ P := by
  intro p hp
  rcases List.mem_append.mp hp with hp | hp
  · exact h p hp
  · exact ne57 ha hb hc p hp
theorem perm57' {q : Addr × Obj} (h : q ∈ (P, o) :: (codes ++ [(a, oa), (b, ob), (c, oc)])) : q ∈ (a, oa) :: (b, ob) :: (c, oc) :: (P, o) :: codes := by
  rcases List.mem_cons.mp h with rfl | h
  · exact .tail _ (.tail _ (.tail _ (.head _)))
  · rcases List.mem_append.mp h with h | h
    · exact .tail _ (.tail _ (.tail _ (.tail _ h)))
    · rcases List.mem_cons.mp h with rfl | h
      · exact .head _
      · rcases List.mem_cons.mp h with rfl | h
        · exact .tail _ (.head _)
        · rw [List.mem_singleton.mp h]; exact .tail _ (.tail _ (.head _))
end
noncomputable def AboveP (row : List Int) (i : Nat) (_ y : Value) : Prop := ∀ n, row[i]? = some n → ∃ t, y = .int (altOf n) t
theorem above_ints : ∀ {its ys : List Value} {row : List Int}, IntsAre its row → EnIs (AboveP row) its ys → IntsAre ys (row.map altOf)
  | _, [], _, .nil, _ => .nil
  | _, _ :: _, _, .nil, h => by have := h.1; simp at this
  | _, [], _, .cons _ _ _, h => by have := h.1; simp at this
  | _, y :: ys, _, .cons n t r, h => by
    obtain ⟨y', hy, hp⟩ := h.2 0 _ rfl
    cases hy
    obtain ⟨t', rfl⟩ := hp n rfl
    refine .cons (altOf n) t' (above_ints r ⟨by have := h.1; simpa using this, fun i v hv => ?_⟩)
    obtain ⟨y', hy, hp⟩ := h.2 (i + 1) v (by simpa using hv)
    exact ⟨y', by simpa using hy, fun x hx => hp x (by simpa using hx)⟩
theorem above_yes {row : List Int} {i : Nat} {x : Int} {v : Value} {t : Tok} (hr : row[i]? = some x) (h : (x.fdiv 128).fmod 2 = 1) : AboveP row i v (.int x t) := by
  intro n hn
  rw [hr] at hn
  cases hn
  rw [fd _ (by decide), fm _ (by decide)] at h
  rw [altOf, if_pos h]
  exact ⟨_, rfl⟩
theorem above_no {row : List Int} {i : Nat} {x : Int} {v : Value} {t : Tok} (hr : row[i]? = some x) (h : (x.fdiv 128).fmod 2 ≠ 1) : AboveP row i v (.int (x + 128) t) := by
  intro n hn
  rw [hr] at hn
  cases hn
  rw [fd _ (by decide), fm _ (by decide)] at h
  rw [altOf, if_neg h]
  exact ⟨_, rfl⟩
theorem alt_pos {x : Int} (h : 0 ≤ x) : 0 ≤ altOf x := by unfold altOf; split <;> omega
set_option maxHeartbeats 40000000 in
theorem law2 : PySem.Challenge.rw_ij0095_01.Holds := by
  w_on
  o_law
  refine holds_open (q := vw) (loose := lo2) (Xt := fun s => xlAt vw [] s && recOk (RowW.records (PySem.Challenge.rw_ij0095_01.row.toRowW)) s) (XP := XL vw []) (Yf := hk.obs) (Ya := hk.val) (YP := hk.says) (N := 3638) ran (Hook.of hk) (Hook.keeps hk) (fun s e => xl_of s (Bool.and_eq_true_iff.mp e).1) XL.keeps (by rfl) (by rfl) (by rfl) (fun s e => recFacts_of (Bool.and_eq_true_iff.mp e).2) (by rfl) (by first | assumption | decide +kernel) (by decide +kernel) ⟨rfl, rfl, rfl, rfl, rfl, by decide +kernel⟩ ?hw ?hc
  case hw => w_witness2
  delta hk
  rename_i said
  clear said
  k_fill
  intro w s₀ s₁ mg mb G Y fa o pm cd doc dV kV ho hdd hcd hD hmg hg args vals as hpre hlay hrd hwl hlo
  have KX := km_in_of Y
  km_tabs Y
  have X := (Ground.X G).1
  have V := (Ground.X G).2
  refine Ground.open G ?_
  intro T B D TE TW
  try (refine guard_noD D (by decide +kernel) ?_; clear D)
  km_lay T hmg ho hdd cd
  clear hmg
  wrow_args hpre hlay hrd hwl hlo
  all_goals (
    first | refine callC_kw (enter_call ?_) | refine enter_call ?_
    w_top on
    refine postG hT9 (fun _ _ => rfl) ?_
    w_call any ho hdd hcd hD T F
    clear hdd
    kn_ghosts F T
    k_drop
    skip)
  (all_goals try k_fold)
  (repeat' ((fail_if_success (with_reducible show wpAny _ _ (PySem.exec (PySem.Stmt.Assign _ _ _) _) _ _ _)); first | (k_unfold; (try dsimp only)) | (k_end; wrow_close) | walk1 | (dsimp only; walk1) | (leave1; walk_say "STEP leave1"; try dsimp only) | fail "no step"))
  have hB0 : AllBare s₁.gens := AllBare.of_eq hg
  (rename Fr _ _ _ _ => lF); (rename News _ _ _ _ => lN)
  refine ijg_cut (σ := RowS) (fun c => [(c.D, listOf c.ys.toArray c.n), (57, tabObj #[])]) (fun c => [(Str.ofString "row", .ref c.D)]) RowI [] lF ?walkA ?contA
  case walkA =>
    (repeat' ((fail_if_success (with_reducible show wpAny _ _ (PySem.exec (PySem.Stmt.While _ _ _ _) _) _ _ _)); first | (k_unfold; (try dsimp only)) | (k_end; wrow_close) | walk1 | (dsimp only; walk1) | (leave1; walk_say "STEP leave1"; try dsimp only) | fail "no step"))
    · refine' ij_at (g' := ⟨s₁.gens, hB0⟩) ⟨_, _, _, _⟩ ?F ?N (List.forall_mem_cons.mpr ⟨?m1, List.forall_mem_cons.mpr ⟨?m2, fun _ h => nomatch h⟩⟩) (cut_r ?k4) ?k3 ⟨?i1, ?i2, row_small, ?i4⟩
      case F => k_asm
      case N => k_asm
      case i1 => assumption
      case k4 => exact rfl
      case m1 => walk_at "ij mem"
      case m2 => walk_at "ij mem"
      case k3 => ((intro z h2 h3; (simp only [List.forall_mem_cons, List.not_mem_nil, false_implies, implies_true, and_true, ne_eq] at h2); (simp only [List.contains_cons, List.contains_nil, Bool.or_false, Bool.or_eq_false_iff, beq_eq_false_iff_ne, ne_eq] at h3); (simp [kstB, h2, h3]; done)))
      case i2 => (rw [List.length_map, List.length_take]; omega)
      case i4 => (dsimp only; refine neN ?_; omega)
    · refine' ij_at (g' := ⟨s₁.gens, hB0⟩) ⟨_, _, _, _⟩ ?F ?N (List.forall_mem_cons.mpr ⟨?m1, List.forall_mem_cons.mpr ⟨?m2, fun _ h => nomatch h⟩⟩) (cut_r ?k4) ?k3 ⟨?i1, ?i2, ?i3, ?i4⟩
      case F => k_asm
      case N => k_asm
      case k4 => exact rfl
      case m1 => walk_at "ij mem"
      case m2 => walk_at "ij mem"
      case k3 => ((intro z h2 h3; (simp only [List.forall_mem_cons, List.not_mem_nil, false_implies, implies_true, and_true, ne_eq] at h2); (simp only [List.contains_cons, List.contains_nil, Bool.or_false, Bool.or_eq_false_iff, beq_eq_false_iff_ne, ne_eq] at h3); (simp [kstB, h2, h3]; done)))
      case i1 => exact .cons _ _ (.cons _ _ (.cons _ _ (.cons _ _ .nil)))
      case i2 => (show 4 ≤ 8; decide)
      case i3 => exact row_dflt
      case i4 => (dsimp only; refine neN ?_; omega)
  case contA =>
    clear lF lN
    rintro ⟨D, ys, row, n⟩ u h1 tk1 g1 ⟨i1, i2, i3, i4⟩ F1 N1
    dsimp only at i1 i2 i3 i4 F1 N1
    (repeat' ((fail_if_success (with_reducible show wpAny _ _ (PySem.exec (PySem.Stmt.Assign _ _ _) _) _ _ _)); first | (k_unfold; (try dsimp only)) | (k_end; wrow_close) | walk1 | (dsimp only; walk1) | (leave1; walk_say "STEP leave1"; try dsimp only) | fail "no step"))
    (rename Fr _ _ _ _ => lF); (rename News _ _ _ _ => lN)
    have hyl : ys.length ≤ 8 := by rw [i1.length]; exact i2
    k_dflt (refine en_assign Thing lF lN rfl (.head _) (by omega) rfl (by with_unfolding_all rfl) (by with_unfolding_all rfl) (by decide) (by rfl) (by decide) (by rfl) (by rfl) (by decide) (by rfl) (by rfl) ?hiter ?R ?h (fun _ => rfl))
    case hiter =>
      intro Q' hQ'
      (repeat' ((fail_if_success (with_reducible show wpAny _ _ (PySem.call (PySem.Value.type _) _) _ _ _)); first | (k_unfold; (try dsimp only)) | (k_end; wrow_close) | walk1 | (dsimp only; walk1) | (leave1; walk_say "STEP leave1"; try dsimp only) | fail "no step"))
      exact hQ' _
    case R =>
      clear lF lN
      intro h2 tk2 i v t C oC m₂ h3 tk3 E' hv hC ha hb F3 N3
      obtain ⟨x, tx0, rfl, hx⟩ := ints_at i1 hv
      have hxs := i3 x (List.mem_of_getElem? hx)
      (repeat' ((fail_if_success (with_reducible show wpAny _ _ (PySem.exec (PySem.Stmt.While _ _ _ _) _) _ _ _)); first | (k_unfold; (try dsimp only)) | (k_end; wrow_close) | walk1 | (dsimp only; walk1) | (leave1; walk_say "STEP leave1"; try dsimp only) | fail "no step"))
      all_goals first
        | exact ⟨_, _, rfl, fun _ _ e => e⟩
        | exact ⟨_, _, rfl, .inl ⟨_, rfl⟩⟩
        | exact ⟨_, _, rfl, .inr ⟨by omega, _, rfl⟩⟩
    case h =>
      clear lF lN
      intro T h2 tk2 zs F2 N2 o2 hz
      have hzl : zs.length ≤ 8 := by rw [hz.1]; exact hyl
      (repeat' ((fail_if_success (with_reducible show wpAny _ _ (PySem.eval (PySem.Expr.ListComp _ _ _ _) _) _ _ _)); first | (k_unfold; (try dsimp only)) | (k_end; wrow_close) | walk1 | (dsimp only; walk1) | (leave1; walk_say "STEP leave1"; try dsimp only) | fail "no step"))
      (rename Fr _ _ _ _ => lF); (rename News _ _ _ _ => lN)
      k_dflt (refine cl_eval (PlainP (row.map fun n => tx (91 :: (uText n ++ [93])))) lF lN (.head _) (by omega) rfl (by with_unfolding_all rfl) (by decide) (by rfl) (by decide) (by rfl) ?hiter ?R ?h (fun _ => rfl))
      case hiter =>
        intro Q' hQ'
        (repeat' ((fail_if_success (with_reducible show wpAny _ _ (PySem.call (Value.ref 97) _) _ _ _)); (fail_if_success (with_reducible show wpAny _ _ (PySem.call (Value.ref 90) _) _ _ _)); (fail_if_success (with_reducible show wpAny _ _ (PySem.call (Value.ref 43) _) _ _ _)); first | (k_unfold; (try dsimp only)) | (k_end; wrow_close) | walk1 | (dsimp only; walk1) | (leave1; walk_say "STEP leave1"; try dsimp only) | fail "no step"))
        exact hQ' _
      case R =>
        clear lF lN
        intro h3 tk3 i v I C D3 oI oC ys3 m₂ h4 tk4 E' hv hC hx F4 N4
        obtain ⟨x, hr, tx0, hv⟩ := thing_at i1 hz hv
        have hxs := i3 x (List.mem_of_getElem? hr)
        have hul := uText_len x
        have hul : (tx (uText x)).length ≤ 1000 := by show (uText x).length ≤ 1000; omega
        rcases hv with rfl | ⟨h0, rfl⟩
        · (repeat' ((fail_if_success (with_reducible show wpAny _ _ (PySem.call (Value.ref 97) _) _ _ _)); (fail_if_success (with_reducible show wpAny _ _ (PySem.call (Value.ref 90) _) _ _ _)); (fail_if_success (with_reducible show wpAny _ _ (PySem.call (Value.ref 43) _) _ _ _)); first | (k_unfold; (try dsimp only)) | (k_end; wrow_close) | walk1 | (dsimp only; walk1) | (leave1; walk_say "STEP leave1"; try dsimp only) | fail "no step"))
          refine' calls_use (c_unctrl_int _ x tx0) ?k1 ?k2 ?k3 ?k4 ?k5 ?k6 ?k7 ?k8 ?_
          (case k1 => k_asm); (case k2 => k_asm); (case k3 => k_asm); (case k4 => k_asm); (case k5 => k_asm); (case k6 => first | exact rfl | assumption); (case k7 => ktr_room); (case k8 => ktr_units)
          rintro r nw h5 tk5 F5 N5 ⟨⟨t5, e5⟩, e6⟩
          subst e5 e6
          (repeat' ((fail_if_success (with_reducible show wpAny _ _ (PySem.call (Value.ref 97) _) _ _ _)); (fail_if_success (with_reducible show wpAny _ _ (PySem.call (Value.ref 90) _) _ _ _)); (fail_if_success (with_reducible show wpAny _ _ (PySem.call (Value.ref 43) _) _ _ _)); first | (k_unfold; (try dsimp only)) | (k_end; wrow_close) | walk1 | (dsimp only; walk1) | (leave1; walk_say "STEP leave1"; try dsimp only) | fail "no step"))
          all_goals first | k_asm | exact fun z hz => ⟨_, congrArg (Value.str · _) (el_text hr hz rfl)⟩
        · (repeat' ((fail_if_success (with_reducible show wpAny _ _ (PySem.call (Value.ref 97) _) _ _ _)); (fail_if_success (with_reducible show wpAny _ _ (PySem.call (Value.ref 90) _) _ _ _)); (fail_if_success (with_reducible show wpAny _ _ (PySem.call (Value.ref 43) _) _ _ _)); first | (k_unfold; (try dsimp only)) | (k_end; wrow_close) | walk1 | (dsimp only; walk1) | (leave1; walk_say "STEP leave1"; try dsimp only) | fail "no step"))
          refine' calls_use (c_unctrl_str _ x.toNat tx0) ?k1 ?k2 ?k3 ?k4 ?k5 ?k6 ?k7 ?k8 ?_
          (case k1 => k_asm); (case k2 => k_asm); (case k3 => k_asm); (case k4 => k_asm); (case k5 => k_asm); (case k6 => first | exact rfl | assumption); (case k7 => ktr_room); (case k8 => ktr_units)
          rintro r nw h5 tk5 F5 N5 ⟨⟨t5, e5⟩, e6⟩
          rw [Int.toNat_of_nonneg h0] at e5
          subst e5 e6
          (repeat' ((fail_if_success (with_reducible show wpAny _ _ (PySem.call (Value.ref 97) _) _ _ _)); (fail_if_success (with_reducible show wpAny _ _ (PySem.call (Value.ref 90) _) _ _ _)); (fail_if_success (with_reducible show wpAny _ _ (PySem.call (Value.ref 43) _) _ _ _)); first | (k_unfold; (try dsimp only)) | (k_end; wrow_close) | walk1 | (dsimp only; walk1) | (leave1; walk_say "STEP leave1"; try dsimp only) | fail "no step"))
          all_goals first | k_asm | exact fun z hz => ⟨_, congrArg (Value.str · _) (el_text hr hz rfl)⟩
      case h =>
        clear lF lN
        intro D3 h3 tk3 ws F3 N3 o3 hw
        have hrl := i1.length
        have hws := strs_of (by rw [List.length_map, hz.1, hrl]) hw
        have hj := join_patT row
        have h57 : D3 ≠ 57 ∧ T ≠ 57 := ⟨(o3 _ (.tail _ (.tail _ (.head _)))).symm, (o2 _ (.tail _ (.head _))).symm⟩
        have hok : ((row.map fun n => tx (91 :: (uText n ++ [93]))).map (·.length)).sum + (row.map fun n => tx (91 :: (uText n ++ [93]))).length * (Str.ofString "").length ≤ 16777216 := by
          rw [patT_sum, len_empty, Nat.mul_zero]; have := patT_len row; omega
        (repeat' ((fail_if_success (with_reducible show wpAny _ _ (PySem.call (Value.ref 97) _) _ _ _)); (fail_if_success (with_reducible show wpAny _ _ (PySem.call (Value.ref 90) _) _ _ _)); (fail_if_success (with_reducible show wpAny _ _ (PySem.call (Value.ref 43) _) _ _ _)); first | (k_unfold; (try dsimp only)) | (k_end; wrow_close) | walk1 | (dsimp only; walk1) | (leave1; walk_say "STEP leave1"; try dsimp only) | fail "no step"))
        (rename Fr _ _ _ _ => lF); (rename News _ _ _ _ => lN)
        refine' callsG_use (c_trl (patT row) _ #[] [] [(D3, LCg.lst ws), (T, LCg.lst zs), (D, listOf ys.toArray n)] row i2 rfl tab_nil (ne57 h57.1 h57.2 i4)) ?k1 ?k2 ?k3 ?k4 ?k5 ?k6 ?k7 ?k8 ?k9 ?kB ?_
        (case k1 => k_asm); (case k2 => k_asm); (case k3 => k_asm); (case k4 => assumption); (case k5 => exact fun q hq => lN q (perm57 hq)); (case k6 => k_asm); (case k7 => first | exact rfl | assumption); (case k8 => ktr_room); (case k9 => ktr_units); (case kB => exact Subtype.property _)
        clear lF lN
        rintro r5 nw5 h5 tk5 g5 F5 N5 ⟨t5, ps5, codes5, e5, Tb5, hs5, hne5⟩
        subst e5
        have N6 := back57 N5 hs5
        have hne6 := tail57 hne5
        clear N5 hs5 hne5
        (repeat' ((fail_if_success (with_reducible show wpAny _ _ (PySem.eval (PySem.Expr.ListComp _ _ _ _) _) _ _ _)); first | (k_unfold; (try dsimp only)) | (k_end; wrow_close) | walk1 | (dsimp only; walk1) | (leave1; walk_say "STEP leave1"; try dsimp only) | fail "no step"))
        (rename Fr _ _ _ _ => lF); (rename News _ _ _ _ => lN)
        k_dflt (refine cl_eval (PlainP ((row.map altOf).map fun n => tx (91 :: (uText n ++ [93])))) lF lN (.head _) (by omega) rfl (by with_unfolding_all rfl) (by decide) (by rfl) (by decide) (by rfl) ?hiter6 ?R6 ?h6 (fun _ => rfl))
        case hiter6 =>
          intro Q' hQ'
          (repeat' ((fail_if_success (with_reducible show wpAny _ _ (PySem.call (Value.ref 97) _) _ _ _)); (fail_if_success (with_reducible show wpAny _ _ (PySem.call (Value.ref 90) _) _ _ _)); (fail_if_success (with_reducible show wpAny _ _ (PySem.call (Value.ref 43) _) _ _ _)); first | (k_unfold; (try dsimp only)) | (k_end; wrow_close) | walk1 | (dsimp only; walk1) | (leave1; walk_say "STEP leave1"; try dsimp only) | fail "no step"))
          exact hQ' _
        case R6 =>
          clear lF lN
          intro h6 tk6 i v I C D6 oI oC ys6 m₂ h7 tk7 E' hv hC hx F7 N7
          obtain ⟨x, hr, tx0, hv⟩ := thing_at i1 hz hv
          have hxs := i3 x (List.mem_of_getElem? hr)
          have hra : (row.map altOf)[i]? = some (altOf x) := by rw [List.getElem?_map, hr]; rfl
          have hul := uText_len (altOf x)
          have hul : (tx (uText (altOf x))).length ≤ 1000 := by show (uText (altOf x)).length ≤ 1000; omega
          rcases hv with rfl | ⟨h0, rfl⟩
          · (repeat' ((fail_if_success (with_reducible show wpAny _ _ (PySem.call (Value.ref 97) _) _ _ _)); (fail_if_success (with_reducible show wpAny _ _ (PySem.call (Value.ref 90) _) _ _ _)); (fail_if_success (with_reducible show wpAny _ _ (PySem.call (Value.ref 43) _) _ _ _)); first | (k_unfold; (try dsimp only)) | (k_end; wrow_close) | walk1 | (dsimp only; walk1) | (leave1; walk_say "STEP leave1"; try dsimp only) | fail "no step"))
            refine' calls_use (c_alt_int _ x tx0) ?k1 ?k2 ?k3 ?k4 ?k5 ?k6 ?k7 ?k8 ?_
            (case k1 => k_asm); (case k2 => k_asm); (case k3 => k_asm); (case k4 => k_asm); (case k5 => k_asm); (case k6 => first | exact rfl | assumption); (case k7 => ktr_room); (case k8 => ktr_units)
            rintro r nw h8 tk8 F8 N8 ⟨⟨t8, e8⟩, e9⟩
            subst e8 e9
            (repeat' ((fail_if_success (with_reducible show wpAny _ _ (PySem.call (Value.ref 97) _) _ _ _)); (fail_if_success (with_reducible show wpAny _ _ (PySem.call (Value.ref 90) _) _ _ _)); (fail_if_success (with_reducible show wpAny _ _ (PySem.call (Value.ref 43) _) _ _ _)); first | (k_unfold; (try dsimp only)) | (k_end; wrow_close) | walk1 | (dsimp only; walk1) | (leave1; walk_say "STEP leave1"; try dsimp only) | fail "no step"))
            refine' calls_use (c_unctrl_int _ (altOf x) _) ?k1 ?k2 ?k3 ?k4 ?k5 ?k6 ?k7 ?k8 ?_
            (case k1 => k_asm); (case k2 => k_asm); (case k3 => k_asm); (case k4 => k_asm); (case k5 => k_asm); (case k6 => first | exact rfl | assumption); (case k7 => ktr_room); (case k8 => ktr_units)
            rintro r nw h9 tk9 F9 N9 ⟨⟨t9, e8⟩, e9⟩
            subst e8 e9
            (repeat' ((fail_if_success (with_reducible show wpAny _ _ (PySem.call (Value.ref 97) _) _ _ _)); (fail_if_success (with_reducible show wpAny _ _ (PySem.call (Value.ref 90) _) _ _ _)); (fail_if_success (with_reducible show wpAny _ _ (PySem.call (Value.ref 43) _) _ _ _)); first | (k_unfold; (try dsimp only)) | (k_end; wrow_close) | walk1 | (dsimp only; walk1) | (leave1; walk_say "STEP leave1"; try dsimp only) | fail "no step"))
            all_goals first | k_asm | exact fun z hz => ⟨_, congrArg (Value.str · _) (el_text hra hz rfl)⟩
          · (repeat' ((fail_if_success (with_reducible show wpAny _ _ (PySem.call (Value.ref 97) _) _ _ _)); (fail_if_success (with_reducible show wpAny _ _ (PySem.call (Value.ref 90) _) _ _ _)); (fail_if_success (with_reducible show wpAny _ _ (PySem.call (Value.ref 43) _) _ _ _)); first | (k_unfold; (try dsimp only)) | (k_end; wrow_close) | walk1 | (dsimp only; walk1) | (leave1; walk_say "STEP leave1"; try dsimp only) | fail "no step"))
            refine' calls_use (c_alt_str _ x.toNat tx0 (by omega)) ?k1 ?k2 ?k3 ?k4 ?k5 ?k6 ?k7 ?k8 ?_
            (case k1 => k_asm); (case k2 => k_asm); (case k3 => k_asm); (case k4 => k_asm); (case k5 => k_asm); (case k6 => first | exact rfl | assumption); (case k7 => ktr_room); (case k8 => ktr_units)
            rintro r nw h8 tk8 F8 N8 ⟨⟨t8, e8⟩, e9⟩
            rw [Int.toNat_of_nonneg h0] at e8
            subst e8 e9
            (repeat' ((fail_if_success (with_reducible show wpAny _ _ (PySem.call (Value.ref 97) _) _ _ _)); (fail_if_success (with_reducible show wpAny _ _ (PySem.call (Value.ref 90) _) _ _ _)); (fail_if_success (with_reducible show wpAny _ _ (PySem.call (Value.ref 43) _) _ _ _)); first | (k_unfold; (try dsimp only)) | (k_end; wrow_close) | walk1 | (dsimp only; walk1) | (leave1; walk_say "STEP leave1"; try dsimp only) | fail "no step"))
            refine' calls_use (c_unctrl_str _ (altOf x).toNat _) ?k1 ?k2 ?k3 ?k4 ?k5 ?k6 ?k7 ?k8 ?_
            (case k1 => k_asm); (case k2 => k_asm); (case k3 => k_asm); (case k4 => k_asm); (case k5 => k_asm); (case k6 => first | exact rfl | assumption); (case k7 => ktr_room); (case k8 => ktr_units)
            rintro r nw h9 tk9 F9 N9 ⟨⟨t9, e8⟩, e9⟩
            rw [Int.toNat_of_nonneg (alt_pos h0)] at e8
            subst e8 e9
            (repeat' ((fail_if_success (with_reducible show wpAny _ _ (PySem.call (Value.ref 97) _) _ _ _)); (fail_if_success (with_reducible show wpAny _ _ (PySem.call (Value.ref 90) _) _ _ _)); (fail_if_success (with_reducible show wpAny _ _ (PySem.call (Value.ref 43) _) _ _ _)); first | (k_unfold; (try dsimp only)) | (k_end; wrow_close) | walk1 | (dsimp only; walk1) | (leave1; walk_say "STEP leave1"; try dsimp only) | fail "no step"))
            all_goals first | k_asm | exact fun z hz => ⟨_, congrArg (Value.str · _) (el_text hra hz rfl)⟩
        case h6 =>
          clear lF lN
          intro D6 h6 tk6 ws6 F6 N6 o6 hw6
          have hws6 := strs_of (by rw [List.length_map, List.length_map, hz.1, hrl]) hw6
          have hj6 := join_patT (row.map altOf)
          have h56 : D6 ≠ 57 := (o6 _ (.tail _ (.tail _ (.head _)))).symm
          have hal : (row.map altOf).length ≤ 8 := by rw [List.length_map]; exact i2
          have hok6 : (((row.map altOf).map fun n => tx (91 :: (uText n ++ [93]))).map (·.length)).sum + ((row.map altOf).map fun n => tx (91 :: (uText n ++ [93]))).length * (Str.ofString "").length ≤ 16777216 := by
            rw [patT_sum, len_empty, Nat.mul_zero]; have := patT_len (row.map altOf); omega
          (repeat' ((fail_if_success (with_reducible show wpAny _ _ (PySem.call (Value.ref 97) _) _ _ _)); (fail_if_success (with_reducible show wpAny _ _ (PySem.call (Value.ref 90) _) _ _ _)); (fail_if_success (with_reducible show wpAny _ _ (PySem.call (Value.ref 43) _) _ _ _)); first | (k_unfold; (try dsimp only)) | (k_end; wrow_close) | walk1 | (dsimp only; walk1) | (leave1; walk_say "STEP leave1"; try dsimp only) | fail "no step"))
          (rename Fr _ _ _ _ => lF); (rename News _ _ _ _ => lN)
          refine' callsG_use (c_trl (patT (row.map altOf)) _ ps5 codes5 [(D6, LCg.lst ws6), (T, LCg.lst zs), (D, listOf ys.toArray n)] (row.map altOf) hal rfl Tb5 (ne57' hne6 h56 h57.2 i4)) ?k1 ?k2 ?k3 ?k4 ?k5 ?k6 ?k7 ?k8 ?k9 ?kB ?_
          (case k1 => k_asm); (case k2 => k_asm); (case k3 => k_asm); (case k4 => assumption); (case k5 => exact fun q hq => lN q (perm57' hq)); (case k6 => k_asm); (case k7 => first | exact rfl | assumption); (case k8 => ktr_room); (case k9 => ktr_units); (case kB => exact Subtype.property _)
          clear lF lN
          rintro r8 nw8 h8 tk8 g8 F8 N8 ⟨t8, ps8, codes8, e8, Tb8, hs8, hne8⟩
          subst e8
          have N9 := back57 N8 hs8
          have hne9 := tail57 hne8
          clear N8 hs8 hne8
          (repeat' ((fail_if_success (with_reducible show wpAny _ _ (PySem.exec (PySem.Stmt.Assign _ _ _) _) _ _ _)); first | (k_unfold; (try dsimp only)) | (k_end; wrow_close) | walk1 | (dsimp only; walk1) | (leave1; walk_say "STEP leave1"; try dsimp only) | fail "no step"))
          (rename Fr _ _ _ _ => lF); (rename News _ _ _ _ => lN)
          k_dflt (refine cl_assign (AboveP row) lF lN rfl (.tail _ (.head _)) (by omega) rfl (by with_unfolding_all rfl) (by with_unfolding_all rfl) (by decide) (by rfl) (by decide) (by rfl) (by rfl) (by rfl) ?hiter10 ?R10 ?h10 (fun _ => rfl))
          case hiter10 =>
            intro Q' hQ'
            (repeat' ((fail_if_success (with_reducible show wpAny _ _ (PySem.call (Value.ref 97) _) _ _ _)); (fail_if_success (with_reducible show wpAny _ _ (PySem.call (Value.ref 90) _) _ _ _)); (fail_if_success (with_reducible show wpAny _ _ (PySem.call (Value.ref 43) _) _ _ _)); first | (k_unfold; (try dsimp only)) | (k_end; wrow_close) | walk1 | (dsimp only; walk1) | (leave1; walk_say "STEP leave1"; try dsimp only) | fail "no step"))
            exact hQ' _
          case R10 =>
            clear lF lN
            intro h10 tk10 i v I C D10 oI oC ys10 m₂ h11 tk11 E' hv hC hx F11 N11
            obtain ⟨x, tx0, rfl, hr⟩ := ints_at i1 hv
            have hxs := i3 x (List.mem_of_getElem? hr)
            dsimp only
            (repeat' ((fail_if_success (with_reducible show wpAny _ _ (PySem.call (Value.ref 97) _) _ _ _)); (fail_if_success (with_reducible show wpAny _ _ (PySem.call (Value.ref 90) _) _ _ _)); (fail_if_success (with_reducible show wpAny _ _ (PySem.call (Value.ref 43) _) _ _ _)); first | (k_unfold; (try dsimp only)) | (k_end; wrow_close) | walk1 | (dsimp only; walk1) | (leave1; walk_say "STEP leave1"; try dsimp only) | fail "no step"))
            all_goals first | k_asm | exact above_yes hr (by assumption) | exact above_no hr (by assumption)
          case h10 =>
            clear lF lN
            intro D10 h10 tk10 as10 F10 N10 o10 ha10
            have hi10 := above_ints i1 ha10
            have hfl : (frameT (trP row)).length ≤ 1000 := by rw [fr_len]; have := (trP_all row).2; omega
            have hfl2 : (frameT (trP (row.map altOf))).length ≤ 1000 := by rw [fr_len]; have := (trP_all (row.map altOf)).2; omega
            dsimp only
            (repeat' ((fail_if_success (with_reducible show wpAny _ _ (PySem.call (Value.ref 118) _) _ _ _)); (fail_if_success (with_reducible show wpAny _ _ (PySem.call (Value.ref 111) _) _ _ _)); first | (k_unfold; (try dsimp only)) | (k_end; wrow_close) | walk1 | (dsimp only; walk1) | (leave1; walk_say "STEP leave1"; try dsimp only) | fail "no step"))
            refine' calls_use (c_read _ (trP row) (trP_all row).1 (frameT (trP row)) rfl hfl t5) ?k1 ?k2 ?k3 ?k4 ?k5 ?k6 ?k7 ?k8 ?_
            (case k1 => k_asm); (case k2 => k_asm); (case k3 => k_asm); (case k4 => k_asm); (case k5 => k_asm); (case k6 => first | exact rfl | assumption); (case k7 => ktr_room); (case k8 => ktr_units)
            rintro r11 nw11 h11 tk11 F11 N11 ⟨d11, s11⟩
            rw [trP_pc] at d11
            obtain ⟨a11, rfl⟩ := dat_ref d11
            (repeat' ((fail_if_success (with_reducible show wpAny _ _ (PySem.call (Value.ref 118) _) _ _ _)); (fail_if_success (with_reducible show wpAny _ _ (PySem.call (Value.ref 111) _) _ _ _)); first | (k_unfold; (try dsimp only)) | (k_end; wrow_close) | walk1 | (dsimp only; walk1) | (leave1; walk_say "STEP leave1"; try dsimp only) | fail "no step"))
            refine' calls_use (c_read _ (trP (row.map altOf)) (trP_all (row.map altOf)).1 (frameT (trP (row.map altOf))) rfl hfl2 t8) ?k1 ?k2 ?k3 ?k4 ?k5 ?k6 ?k7 ?k8 ?_
            (case k1 => k_asm); (case k2 => k_asm); (case k3 => k_asm); (case k4 => k_asm); (case k5 => k_asm); (case k6 => first | exact rfl | assumption); (case k7 => ktr_room); (case k8 => ktr_units)
            rintro r12 nw12 h12 tk12 F12 N12 ⟨d12, s12⟩
            rw [trP_pc] at d12
            obtain ⟨a12, rfl⟩ := dat_ref d12
            (repeat' ((fail_if_success (with_reducible show wpAny _ _ (PySem.call (Value.ref 118) _) _ _ _)); (fail_if_success (with_reducible show wpAny _ _ (PySem.call (Value.ref 111) _) _ _ _)); first | (k_unfold; (try dsimp only)) | (k_end; wrow_close) | walk1 | (dsimp only; walk1) | (leave1; walk_say "STEP leave1"; try dsimp only) | fail "no step"))
            refine' calls_use (c_due _ D ys row n (.tail _ (s12 _ (s11 _ (.tail _ (.tail _ (.head _)))))) i1 i2) ?k1 ?k2 ?k3 ?k4 ?k5 ?k6 ?k7 ?k8 ?_
            (case k1 => k_asm); (case k2 => k_asm); (case k3 => k_asm); (case k4 => k_asm); (case k5 => k_asm); (case k6 => first | exact rfl | assumption); (case k7 => ktr_room); (case k8 => ktr_units)
            rintro r13 nw13 h13 tk13 F13 N13 ⟨d13, s13⟩
            obtain ⟨a13, rfl⟩ := dat_ref d13
            (repeat' ((fail_if_success (with_reducible show wpAny _ _ (PySem.call (Value.ref 118) _) _ _ _)); (fail_if_success (with_reducible show wpAny _ _ (PySem.call (Value.ref 111) _) _ _ _)); first | (k_unfold; (try dsimp only)) | (k_end; wrow_close) | walk1 | (dsimp only; walk1) | (leave1; walk_say "STEP leave1"; try dsimp only) | fail "no step"))
            refine' calls_use (c_due _ D10 as10 (row.map altOf) as10.length (s13 _ (.tail _ (s12 _ (s11 _ (.head _))))) hi10 hal) ?k1 ?k2 ?k3 ?k4 ?k5 ?k6 ?k7 ?k8 ?_
            (case k1 => k_asm); (case k2 => k_asm); (case k3 => k_asm); (case k4 => k_asm); (case k5 => k_asm); (case k6 => first | exact rfl | assumption); (case k7 => ktr_room); (case k8 => ktr_units)
            rintro r14 nw14 h14 tk14 F14 N14 ⟨d14, s14⟩
            obtain ⟨a14, rfl⟩ := dat_ref d14
            (repeat' ((fail_if_success (with_reducible show wpAny _ _ (PySem.compareOp _ _ _) _ _ _)); first | (k_unfold; (try dsimp only)) | (k_end; wrow_close) | walk1 | (dsimp only; walk1) | (leave1; walk_say "STEP leave1"; try dsimp only) | fail "no step"))
            (rename Fr _ _ _ _ => lF); (rename News _ _ _ _ => lN)
            refine ij_eqDat (n := 4) lN (law_fin d11 s12 d12 s13 d13 s14 d14).1 (law_fin d11 s12 d12 s13 d13 s14 d14).2.1 (ok_two _ _) (by decide) ?hu ?_
            case hu => first | decide | ktr_units
            exact ⟨⟨goodW_bool lF rfl (fun _ => rfl) (postW_of rfl (w_eq_bool (w_res rfl) w_lit) rfl) rfl, GrownAt.of lN ((law_fin d11 s12 d12 s13 d13 s14 d14).2.2 _ (s11 _ (.tail _ (.tail _ (.tail _ (.head _)))))), trivial⟩, g8.2⟩
end Mine
theorem PySem.Challenge.cw_ij0095_01_holds : PySem.Challenge.rw_ij0095_01.Holds :=
  Mine.law2

