import PyProof.Rows.All
import Wide.All
import OpenK.AllK
import Wide.FinOn
import PySem.Challenge.RW_sh0036_01
open PySem PySem.W PyProof.Rows
set_option Elab.async false
set_option compiler.extract_closed false
set_option maxRecDepth 100000
set_option maxHeartbeats 8000000
namespace Mine
noncomputable def view : Program := { PySem.Challenge.pw_sh0036_01 with main := { PySem.Challenge.pw_sh0036_01.main with body := [0, 2, 3, 4, 7, 9, 11, 12, 13, 15, 16, 17, 18, 19, 20].filterMap fun i => PySem.Challenge.pw_sh0036_01.main.body[i]? } }
noncomputable abbrev looseL : List Str := [Str.ofString "ONE_SIXTH", Str.ofString "TWO_THIRD", Str.ofString "compute_powers", Str.ofString "Whitespace"]
noncomputable abbrev readL : List (Str × WData) := [(Str.ofString "ONE_SIXTH", WData.float 4595172819793696085), (Str.ofString "TWO_THIRD", WData.float 4604180019048437077)]
section Head
set_option hygiene false in
local macro_rules | `(tactic| o_law) => `(tactic| refine holds_law (by decide +kernel) fun said => ?_)
set_option hygiene false in
local macro_rules | `(tactic| o_head $H) => `(tactic| (
  refine holds_open (q := Mine.view) (loose := Mine.looseL) (Xt := fun s => xlAt Mine.view Mine.readL s && recOk (RowW.records (OpenRow.toRowW PySem.Challenge.rw_sh0036_01.row)) s) (XP := XL Mine.view Mine.readL) (Yf := Hook.obs $H) (Ya := Hook.val $H) (YP := Hook.says $H) (N := 1972) ?hl (Hook.of $H) (Hook.keeps $H) (fun s e => xl_of s (Bool.and_eq_true_iff.mp e).1) XL.keeps (by rfl) (by rfl) (by rfl) (fun s e => recFacts_of (Bool.and_eq_true_iff.mp e).2) (by rfl) (by first | assumption | decide +kernel) (by decide +kernel) ⟨rfl, rfl, rfl, rfl, rfl, by decide +kernel⟩ ?hw ?hc
  (case hl => (refine LeftO.of_split "special-get-raises" ?_; intro w; kernel_rfl))))
open_top hd for PySem.Challenge.rw_sh0036_01
end Head
open PySem PySem.W PySem.Spec PySem.Calls PyProof.Rows
theorem cj1 {a b c : Prop} (h : a ∧ b ∧ c) : b := h.2.1
theorem cj2 {a b c d : Prop} (h : a ∧ b ∧ c ∧ d) : c := h.2.2.1
theorem cj3 {a b c d e : Prop} (h : a ∧ b ∧ c ∧ d ∧ e) : d := h.2.2.2.1
theorem cj4 {a b c d e f : Prop} (h : a ∧ b ∧ c ∧ d ∧ e ∧ f) : e := h.2.2.2.2.1
theorem cj5 {a b c d e f g : Prop} (h : a ∧ b ∧ c ∧ d ∧ e ∧ f ∧ g) : f := h.2.2.2.2.2.1
theorem cj6 {a b c d e f g i : Prop} (h : a ∧ b ∧ c ∧ d ∧ e ∧ f ∧ g ∧ i) : g := h.2.2.2.2.2.2.1
theorem cj7 {a b c d e f g i j : Prop} (h : a ∧ b ∧ c ∧ d ∧ e ∧ f ∧ g ∧ i ∧ j) : i := h.2.2.2.2.2.2.2.1
local macro_rules | `(tactic| walk_at "cj") => `(tactic| first | assumption | exact And.left ‹_› | exact And.right ‹_› | exact cj1 ‹_› | exact cj2 ‹_› | exact cj3 ‹_› | exact cj4 ‹_› | exact cj5 ‹_› | exact cj6 ‹_› | exact cj7 ‹_›)
local macro_rules | `(tactic| omega) => `(tactic| first
  | with_reducible assumption
  | decide
  | with_reducible first
    | walk_at "cj"
    | refine Nat.ne_of_gt ?_; walk_at "cj"
    | refine Nat.ne_of_lt ?_; walk_at "cj"
  | ((fail_if_success (fail_if_success omega (config := {}))); first | lia | omega (config := {})))
local macro_rules | `(tactic| walk_at "cK") => `(tactic| ((case k1 => k_asm); (case k2 => k_asm); (case k3 => k_asm); (case k4 => k_asm); (case k5 => k_asm)))
local macro_rules | `(tactic| walk_at "cK6") => `(tactic| (walk_at "cK"; (case k6 => first | exact rfl | assumption)))
section PartCL
open PySem PySem.W PySem.Spec PySem.Calls PyProof.Rows
section
noncomputable abbrev Pg := PySem.Challenge.rw_sh0036_01.row.prog
theorem mem_of {α : Type} {x : α} {l : List α} (h : x ∈ l) : List.Mem x l := h
theorem all_ne {x d : Nat} {l : List (Addr × Obj)} (h : ∀ p ∈ l, p.1 < x) (hd : x ≤ d) : ∀ p ∈ l, p.1 ≠ d := fun p hp => Nat.ne_of_lt (Nat.lt_of_lt_of_le (h p hp) hd)
section
variable {prog : Program} {w : World} {A : Around} {E : Value → Shared → Prop} {s : Shared} {l b : Addr} {xs ys : Array Value} {Q : Value → Shared → Prop}
theorem ne_lens (hl : s.heap.IsList l xs) (hb : s.heap.IsList b ys) (hsz : (xs.size != ys.size) = true) (hu : A.units < cLine) (h : Q (.bool true) s) :
    wpAny (model prog w) A (compareOp .NotEq (.ref l) (.ref b)) Q E s := SeqAt.RcNeAt.lists_lengths hl hb hsz hu prog w E Q h
theorem ne_nils (hl : s.heap.IsList l #[]) (hb : s.heap.IsList b #[]) (hu : A.units < cLine) (h : Q (.bool false) s) :
    wpAny (model prog w) A (compareOp .NotEq (.ref l) (.ref b)) Q E s :=
  SeqAt.RcNeAt.lists (e := fun _ => true) hl hb rfl hu (fun j h1 _ => absurd h1 (Nat.not_lt_zero _)) prog w E Q (by simpa using h)
end
theorem compEnd_same {h₀ : Heap} {L I C D : Addr} {m : Str → Option Value} {s₁ : Shared} {oI oC oD : Obj} {S : List (Addr × Obj) → Prop} {rest : Value → List (Addr × Obj) → Prop} {y : Value} {h' : Heap} {tk : Nat} {news' : List (Addr × Obj)}
    (F : Fr h₀ L h' m) (N : News h₀ L h' ((I, oI) :: (C, oC) :: (D, oD) :: news')) (off : LCg.Off3 I C D news') (hS : S news') (r : rest y news') :
    LCg.CompEnd h₀ L m s₁ I oI C oC D oD S rest y { s₁ with heap := h', toks := tk } := LCg.CompEnd.intro F N news' (fun _ h => h) off hS r
noncomputable def Stop (P : Prop) : Prop := P
theorem Stop.out {P : Prop} (h : Stop P) : P := h
theorem look_skip {m : Str → Option Value} {a b : Str} {u : Option Value} {v : Value} (h : b ≠ a) (e : m b = some v) : (fun y => if y = a then u else m y) b = some v := (if_neg h).trans e
theorem look_hit {m : Str → Option Value} {a : Str} {u : Option Value} : (fun y => if y = a then u else m y) a = u := if_pos rfl
theorem szn : (1000 : Nat) ≤ 100000 := by decide
theorem lt_le {a b c k : Nat} (hb : b ≤ k) (h : a + k < c) : a + b < c := Nat.lt_of_le_of_lt (Nat.add_le_add_left hb a) h
inductive Fls : List Value → List UInt64 → Prop
  | nil : Fls [] []
  | cons (b : UInt64) (t : Tok) {vs bs} : t ≠ 0 → Fls vs bs → Fls (.float b t :: vs) (b :: bs)
theorem Fls.length : ∀ {vs bs}, Fls vs bs → vs.length = bs.length
  | _, _, .nil => rfl
  | _, _, .cons _ _ _ h => congrArg (· + 1) h.length
theorem Fls.append {vs bs ws cs} (h : Fls vs bs) (k : Fls ws cs) : Fls (vs ++ ws) (bs ++ cs) := by
  induction h with
  | nil => exact k
  | cons b t ht _ ih => exact .cons b t ht ih
theorem Fls.get : ∀ {vs bs}, Fls vs bs → ∀ (i : Nat) (b : UInt64), bs[i]? = some b → ∃ t, t ≠ 0 ∧ vs[i]? = some (.float b t)
  | _, _, .nil, i, v, h => by simp at h
  | _, _, .cons b t ht _, 0, v, h => ⟨t, ht, by cases h; rfl⟩
  | _, _, .cons _ _ _ k, i + 1, v, h => k.get i v h
theorem Fls.of_get : ∀ {bs : List UInt64} {vs : List Value}, vs.length = bs.length → (∀ i, i < bs.length → ∃ t, t ≠ 0 ∧ vs[i]? = some (.float (bs.getD i 0) t)) → Fls vs bs
  | [], [], _, _ => .nil
  | b :: bs, v :: vs, hl, h => by
    obtain ⟨t, ht, e⟩ := h 0 (by simp)
    have e' : v = .float b t := by simpa using e
    subst e'
    refine .cons b t ht (Fls.of_get (by simpa using hl) fun i hi => ?_)
    obtain ⟨t', ht', e'⟩ := h (i + 1) (by simpa using hi)
    exact ⟨t', ht', by simpa using e'⟩
  | [], _ :: _, hl, _ => by simp at hl
  | _ :: _, [], hl, _ => by simp at hl
noncomputable def fv (z x y : UInt64) : UInt64 := Float64.add x (Float64.mul (Float64.mul (Float64.sub y x) z) 4618441417868443648)
noncomputable def stp (hu : UInt64) : List UInt64 → List UInt64
  | a :: b :: r => fv hu a b :: stp hu (b :: r)
  | _ => []
theorem stp_length (hu : UInt64) : ∀ l : List UInt64, (stp hu l).length = l.length - 1
  | [] => rfl
  | [_] => rfl
  | a :: b :: r => by simp [stp, stp_length hu (b :: r)]
theorem stp_get (hu : UInt64) : ∀ (l : List UInt64) (i : Nat), i < l.length - 1 → (stp hu l).getD i 0 = fv hu (l.getD i 0) (l.getD (i + 1) 0)
  | [], i, h => by simp at h
  | [_], i, h => by simp at h
  | a :: b :: r, 0, _ => rfl
  | a :: b :: r, i + 1, h => by
    have := stp_get hu (b :: r) i (by simp at h ⊢; omega)
    simpa [stp] using this
noncomputable def firsts (hu : UInt64) : Nat → List UInt64 → List UInt64
  | 0, _ => []
  | n + 1, l => l.getD 0 0 :: firsts hu n (stp hu l)
noncomputable def lasts (hu : UInt64) : Nat → List UInt64 → List UInt64
  | 0, _ => []
  | n + 1, l => lasts hu n (stp hu l) ++ [l.getD (l.length - 1) 0]
section
variable {prog : Program} {w : World} {A : Around} {h₀ : Heap} {L : Addr} {m : Str → Option Value} {env : Env} {elt : Expr} {x : Str} {scope : Scope} {cl : List (Str × Addr)} {s : Shared} {S : List (Addr × Obj) → Prop} {P : Nat → Value → Prop} {Fin : List Value → List (Addr × Obj) → Prop} {news : List (Addr × Obj)}
theorem comp_ind (R : Nat → Value → Prop) (N : Nat) (hS : S news)
    (step : ∀ i v I oI C oC D m₂ h tk ys (E' : Value → Shared → Prop), i < N → P i v → LCg.NsObj oC m₂ → m₂ x = some v → Fr h₀ L h m → News h₀ L h ((I, oI) :: (C, oC) :: (D, LCg.lst ys) :: news) → LCg.Off3 I C D news → ((@Ne Nat I C) ∧ (@Ne Nat I D) ∧ (@Ne Nat C D)) →
      wpAny (model prog w) A (eval elt (compEnvC scope cl C env)) (fun y s' => ∃ h' tk', s' = { s with heap := h', toks := tk' } ∧ Fr h₀ L h' m ∧ News h₀ L h' ((I, oI) :: (C, oC) :: (D, LCg.lst ys) :: news) ∧ R i y) E' { s with heap := h, toks := tk })
    (fin : ∀ ys : List Value, ys.length = N → (∀ j, j < N → ∃ y, ys[j]? = some y ∧ R j y) → Fin ys news) :
    ∀ (k i : Nat) (ys : List Value), i + k = N → ys.length = i → (∀ j, j < i → ∃ y, ys[j]? = some y ∧ R j y) → LCg.CompRest prog w A h₀ L m env elt x scope cl s S P Fin k i ys news
  | 0, i, ys, hk, hl, hy => LCg.CompRest.zero (fin ys (by omega) fun j hj => hy j (by omega))
  | k + 1, i, ys, hk, hl, hy => LCg.CompRest.succ fun v I oI C oC D m₂ h tk E' hP hC hx F Nw off ne =>
      wpAny_mono (step i v I oI C oC D m₂ h tk ys E' (by omega) hP hC hx F Nw off ne) (fun y s' ⟨h', tk', e, F', N', hr⟩ => by
        subst e
        exact compEnd_same F' N' off hS (comp_ind R N hS step fin k (i + 1) (ys ++ [y]) (by omega) (by simp [hl]) fun j hj => by
          by_cases hji : j < i
          · obtain ⟨y', e', r'⟩ := hy j hji
            exact ⟨y', by rw [List.getElem?_append_left (by omega)]; exact e', r'⟩
          · have : j = i := by omega
            subst this
            exact ⟨y, by rw [List.getElem?_append_right (by omega), hl, Nat.sub_self]; rfl, hr⟩)) fun _ _ e => e
end
section
variable {prog : Program} {w : World} {A : Around} {E : Value → Shared → Prop} {s : Shared} {h₀ : Heap} {L l b : Addr} {m : Str → Option Value} {news : List (Addr × Obj)} {vs ws : List Value} {Q : Value → Shared → Prop}
theorem seq_last {n : Nat} (hn : 0 < n) : seqIndex? (-1) n = some (n - 1) := by
  unfold seqIndex?
  have h1 : (0 : Int) ≤ -1 + (n : Int) := by omega
  have h2 : -1 + (n : Int) < (n : Int) := by omega
  have h3 : (-1 + (n : Int)).toNat = n - 1 := by omega
  simp [h1, h3]; exact h2
theorem ne_cons_nil {v : Value} (hl : s.heap.IsList l (v :: vs).toArray) (hb : s.heap.IsList b #[]) (hu : A.units < cLine) (h : Q (.bool true) s) :
    wpAny (model prog w) A (compareOp .NotEq (.ref l) (.ref b)) Q E s := ne_lens hl hb (by simp) hu h
theorem len_at (hl : s.heap.IsList l vs.toArray) (hz : vs.length ≤ 100000)
    (h : Q (.int (vs.length : Int) (s.toks + 1)) { s with toks := s.toks + 1 + 1 }) : wpAny (model prog w) A (call (.builtin "len") [.ref l]) Q E s :=
  len_list hl (by rw [List.size_toArray]; omega) (by rw [List.size_toArray]; exact h)
theorem item_last {value slice : PySem.Expr} {u : Tok} {v : Value} (hl : s.heap.IsList l vs.toArray) (hn : 0 < vs.length) (hx : vs[vs.length - 1]? = some v) (h : Q v s)
    (hs : subscripted slice false (.ref l) (.int (-1) u) = operate [.ref l, .int (-1) u] (getItem (.ref l) (.int (-1) u)) := by with_unfolding_all rfl) :
    wpAny (model prog w) A (subscriptTail value slice (.ref l) (.int (-1) u)) Q E s :=
  kde_neg hl (by decide) (by decide) (seq_last hn) hx h hs
theorem item_at {value slice : PySem.Expr} {k : Int} {u : Tok} {v : Value} (hl : s.heap.IsList l vs.toArray) (h0 : 0 ≤ k) (hz : k < 100000) (hx : vs[k.toNat]? = some v) (h : Q v s)
    (hs : subscripted slice false (.ref l) (.int k u) = operate [.ref l, .int k u] (getItem (.ref l) (.int k u)) := by with_unfolding_all rfl) :
    wpAny (model prog w) A (subscriptTail value slice (.ref l) (.int k u)) Q E s :=
  tail_any hl.typeIs slot_list_getitem.lookup (wpAny_getItem_list hl h0 (by omega) (by simpa using hx) h) hs
theorem add_one {v : Value} (F : Fr h₀ L s.heap m) (N : News h₀ L s.heap news) (ha : s.heap.IsList l #[v]) (hb : s.heap.IsList b ws.toArray)
    (h : ∀ D h', Fr h₀ L h' m → News h₀ L h' ((D, W.listOf (v :: ws).toArray 0) :: news) → (∀ p ∈ news, p.1 < D) → Q (.ref D) { s with heap := h' })
    (hz : ws.length ≤ 100000) : wpAny (model prog w) A (binaryOp .Add (.ref l) (.ref b)) Q E s :=
  kmk_add_lit F N ha hb (by simp) h (by rw [sizeLine_eq]; simp; omega)
end
section
variable {prog : Program} {w : World} {A : Around} {E : Value → Shared → Prop} {s : Shared} {h₀ : Heap} {L D : Addr} {m : Str → Option Value} {news news' : List (Addr × Obj)} {vs : List Value} {n : Nat} {x : Value} {Q : Value → Shared → Prop}
theorem append_L (F : Fr h₀ L s.heap m) (N : News h₀ L s.heap news) (U : Upd D (W.listOf vs.toArray n) (W.listOf (vs ++ [x]).toArray (n + 1)) news news')
    (hz : vs.length ≤ 100000) (h : ∀ h', Fr h₀ L h' m → News h₀ L h' news' → Q .none { s with heap := h' }) : wpAny (model prog w) A (call (.builtin "list.append") [.ref D, x]) Q E s :=
  append_K F N (by rw [List.push_toArray]; exact U) h (by rw [sizeLine_eq, List.size_toArray]; omega)
end
section
variable {prog : Program} {w : World} {A : Around} {h₀ : Heap} {L : Addr} {m : Str → Option Value} {env : Env} {elt : Expr} {x : Str} {scope : Scope} {cl : List (Str × Addr)} {s₁ : Shared} {Fin : Shared → List Value → List (Addr × Obj) → Prop} {news : List (Addr × Obj)}
theorem src_range (R : Nat → Value → Prop) {r : Addr} {a b : Int} {t u v : Tok} {n : Nat}
    (hh : A.handled = none) (F : Fr h₀ L s₁.heap m) (N : News h₀ L s₁.heap news) (hr : IsRange s₁.heap r a b 1 t u v) (ha : -100000 ≤ a) (ha' : a ≤ 100000) (hb : b = a + n) (hn : n ≤ 100000)
    (step : ∀ i t I oI C oC D m₂ h tk ys (E' : Value → Shared → Prop), i < n → LCg.NsObj oC m₂ → m₂ x = some (.int (a + (i : Int)) t) → Fr h₀ L h m → News h₀ L h ((I, oI) :: (C, oC) :: (D, LCg.lst ys) :: news) → LCg.Off3 I C D news → ((@Ne Nat I C) ∧ (@Ne Nat I D) ∧ (@Ne Nat C D)) →
      wpAny (model prog w) A (eval elt (compEnvC scope cl C env)) (fun y s' => Stop (∃ h' tk', s' = { s₁ with heap := h', toks := tk' } ∧ Fr h₀ L h' m ∧ News h₀ L h' ((I, oI) :: (C, oC) :: (D, LCg.lst ys) :: news) ∧ R i y)) E' { s₁ with heap := h, toks := tk })
    (fin : ∀ g (ys : List Value), ys.length = n → (∀ j, j < n → ∃ y, ys[j]? = some y ∧ R j y) → Fin { s₁ with heap := g } ys news) :
    LCg.CompSrc prog w A h₀ L m env elt x scope cl Fin (.ref r) s₁ :=
  LCg.CompSrc.range hh F N hr (small_one (by omega) (by omega) (by omega) (by omega)) (by rw [rangeSize_nat]; congr 1; omega) (by rw [sizeLine_eq]; omega) fun g =>
    comp_ind R n trivial (fun i v I oI C oC D m₂ h tk ys E' hi hP hC hx F N off ne => by
      obtain ⟨t, rfl⟩ := hP
      exact step i t I oI C oC D m₂ h tk ys E' hi hC hx F N off ne) (fun ys hl hy => fin g ys hl hy) n 0 [] (by omega) rfl (fun j hj => absurd hj (Nat.not_lt_zero _))
end
end
end PartCL
section PartCL2
open PySem PySem.W PySem.Spec PySem.Calls PyProof.Rows
section
section
variable {prog : Program} {w : World} {A : Around} {h₀ : Heap} {L : Addr} {m : Str → Option Value} {env : Env} {ct elt : Expr} {x : Str} {scope : Scope} {cl : List (Str × Addr)} {s : Shared} {S : List (Addr × Obj) → Prop} {P : Nat → Value → Prop} {Fin : List Value → List (Addr × Obj) → Prop} {news : List (Addr × Obj)}
theorem comp_indT (Acc : Nat → List Value → Prop) (N : Nat) (hS : S news)
    (step : ∀ i v I oI C oC D m₂ h tk ys (E' : Value → Shared → Prop), i < N → P i v → LCg.NsObj oC m₂ → m₂ x = some v → Fr h₀ L h m → News h₀ L h ((I, oI) :: (C, oC) :: (D, LCg.lst ys) :: news) → LCg.Off3 I C D news → ((@Ne Nat I C) ∧ (@Ne Nat I D) ∧ (@Ne Nat C D)) → Acc i ys →
      wpAny (model prog w) A (isTrue ct (compEnvC scope cl C env) (eval ct (compEnvC scope cl C env))) (fun ok s' => if ok = true then
        wpAny (model prog w) A (eval elt (compEnvC scope cl C env)) (fun y s'' => Stop (∃ h' tk', s'' = { s with heap := h', toks := tk' } ∧ Fr h₀ L h' m ∧ News h₀ L h' ((I, oI) :: (C, oC) :: (D, LCg.lst ys) :: news) ∧ Acc (i + 1) (ys ++ [y]))) E' s'
        else Stop (∃ h' tk', s' = { s with heap := h', toks := tk' } ∧ Fr h₀ L h' m ∧ News h₀ L h' ((I, oI) :: (C, oC) :: (D, LCg.lst ys) :: news) ∧ Acc (i + 1) ys)) E' { s with heap := h, toks := tk })
    (fin : ∀ ys : List Value, Acc N ys → Fin ys news) :
    ∀ (k i : Nat) (ys : List Value), i + k = N → Acc i ys → LCt.CompRestT prog w A h₀ L m env ct elt x scope cl s S P Fin k i ys news
  | 0, i, ys, hk, hy => LCt.CompRestT.zero (fin ys ((by omega : i = N) ▸ hy))
  | k + 1, i, ys, hk, hy => LCt.CompRestT.succ fun v I oI C oC D m₂ h tk E' hP hC hx F Nw off ne =>
      wpAny_mono (step i v I oI C oC D m₂ h tk ys E' (by omega) hP hC hx F Nw off ne hy) (fun ok s' hs => by
        cases ok with
        | true =>
          simp only [if_true] at hs ⊢
          exact wpAny_mono hs (fun y s'' ⟨h', tk', e, F', N', hr⟩ => by
            subst e
            exact compEnd_same F' N' off hS (comp_indT Acc N hS step fin k (i + 1) (ys ++ [y]) (by omega) hr)) fun _ _ e => e
        | false =>
          simp only [Bool.false_eq_true, if_false] at hs ⊢
          obtain ⟨h', tk', e, F', N', hr⟩ := hs
          subst e
          exact compEnd_same F' N' off hS (comp_indT Acc N hS step fin k (i + 1) ys (by omega) hr)) fun _ _ e => e
end
section
variable {prog : Program} {w : World} {A : Around} {h₀ : Heap} {L : Addr} {m : Str → Option Value} {env : Env} {ct elt : Expr} {x : Str} {scope : Scope} {cl : List (Str × Addr)} {s₁ : Shared} {Fin : Shared → List Value → List (Addr × Obj) → Prop} {news : List (Addr × Obj)}
theorem srcT_list (Acc : Nat → List Value → Prop) {ax : Addr} {its : List Value} {k : Nat}
    (hh : A.handled = none) (F : Fr h₀ L s₁.heap m) (N : News h₀ L s₁.heap news) (hm : (ax, W.listOf its.toArray k) ∈ news) (hn : its.length ≤ 100000)
    (step : ∀ i v I oI C oC D m₂ h tk ys (E' : Value → Shared → Prop), i < its.length → its[i]? = some v → LCg.NsObj oC m₂ → m₂ x = some v → Fr h₀ L h m → News h₀ L h ((I, oI) :: (C, oC) :: (D, LCg.lst ys) :: news) → LCg.Off3 I C D news → ((@Ne Nat I C) ∧ (@Ne Nat I D) ∧ (@Ne Nat C D)) → Acc i ys →
      wpAny (model prog w) A (isTrue ct (compEnvC scope cl C env) (eval ct (compEnvC scope cl C env))) (fun ok s' => if ok = true then
        wpAny (model prog w) A (eval elt (compEnvC scope cl C env)) (fun y s'' => Stop (∃ h' tk', s'' = { s₁ with heap := h', toks := tk' } ∧ Fr h₀ L h' m ∧ News h₀ L h' ((I, oI) :: (C, oC) :: (D, LCg.lst ys) :: news) ∧ Acc (i + 1) (ys ++ [y]))) E' s'
        else Stop (∃ h' tk', s' = { s₁ with heap := h', toks := tk' } ∧ Fr h₀ L h' m ∧ News h₀ L h' ((I, oI) :: (C, oC) :: (D, LCg.lst ys) :: news) ∧ Acc (i + 1) ys)) E' { s₁ with heap := h, toks := tk })
    (h0 : Acc 0 []) (fin : ∀ g (ys : List Value), Acc its.length ys → Fin { s₁ with heap := g } ys news) :
    LCt.CompSrcT prog w A h₀ L m env ct elt x scope cl Fin (.ref ax) s₁ :=
  LCt.CompSrcT.ledger hh F N hm (by rw [sizeLine_eq, List.size_toArray]; omega) fun g => by
    rw [List.size_toArray]
    exact comp_indT Acc its.length (.inr ⟨_, hm, rfl, _, rfl⟩) (fun i v I oI C oC D m₂ h tk ys E' hi hP hC hx F N off ne hy => by
      exact step i v I oI C oC D m₂ h tk ys E' hi (by simpa using hP) hC hx F N off ne hy) (fun ys hy => fin g ys hy) its.length 0 [] (by omega) h0
end
noncomputable def nzF (b : UInt64) : Bool := Float64.cmpInt b 0 != some Ordering.eq
noncomputable def psF (b : UInt64) : Bool := Float64.cmpInt b 0 == some Ordering.gt
noncomputable def chF (b : UInt64) : Nat := if psF b then 97 else 65
noncomputable def wordOf (bs : List UInt64) : List Nat := (bs.filter nzF).map chF
noncomputable def costs : List Nat → List Int
  | a :: b :: r => (if a = b then 0 else 1) :: costs (b :: r)
  | _ => []
noncomputable def turns (l : List Nat) : Int := (costs l).sum
theorem costs_length : ∀ l : List Nat, (costs l).length = l.length - 1
  | [] => rfl
  | [_] => rfl
  | a :: b :: r => by simp [costs, costs_length (b :: r)]
theorem costs_get : ∀ (l : List Nat) (i : Nat), i < l.length - 1 → (costs l).getD i 0 = if l.getD i 0 = l.getD (i + 1) 0 then 0 else 1
  | [], i, h => by simp at h
  | [_], i, h => by simp at h
  | a :: b :: r, 0, _ => rfl
  | a :: b :: r, i + 1, h => by
    have := costs_get (b :: r) i (by simp at h ⊢; omega)
    simpa [costs] using this
theorem ints_of_get : ∀ {bs : List Int} {vs : List Value}, vs.length = bs.length → (∀ i, i < bs.length → ∃ t, vs[i]? = some (.int (bs.getD i 0) t)) → IntsAre vs bs
  | [], [], _, _ => .nil
  | b :: bs, v :: vs, hl, h => by
    obtain ⟨t, e⟩ := h 0 (by simp)
    have e' : v = .int b t := by simpa using e
    subst e'
    refine .cons b t (ints_of_get (by simpa using hl) fun i hi => ?_)
    obtain ⟨t', e'⟩ := h (i + 1) (by simpa using hi)
    exact ⟨t', by simpa using e'⟩
  | [], _ :: _, hl, _ => by simp at hl
  | _ :: _, [], hl, _ => by simp at hl
theorem wordOf_snoc (bs : List UInt64) (b : UInt64) : wordOf (bs ++ [b]) = if nzF b then wordOf bs ++ [chF b] else wordOf bs := by
  unfold wordOf
  cases h : nzF b <;> simp [h]
theorem wordOf_mem {bs : List UInt64} {c : Nat} (h : c ∈ wordOf bs) : c = 97 ∨ c = 65 := by
  unfold wordOf at h
  obtain ⟨b, _, rfl⟩ := List.mem_map.mp h
  unfold chF
  split <;> simp
theorem wordOf_le (bs : List UInt64) : (wordOf bs).length ≤ bs.length := by
  unfold wordOf; rw [List.length_map]; exact List.length_filter_le _ _
theorem strsAre_snoc {vs : List Value} {ss : List Str} (h : StrsAre vs ss) (y : Str) (t : Tok) : StrsAre (vs ++ [.str y t]) (ss ++ [y]) := by
  induction h with
  | nil => exact .cons y t .nil
  | cons a u _ ih => exact .cons a u ih
theorem acc_keep {bs : List UInt64} {i : Nat} {b : UInt64} {ys : List Value} {x : Str} {t : Tok} (hb : bs[i]? = some b) (h1 : nzF b = true) (h2 : x = ⟨#[chF b]⟩)
    (hy : StrsAre ys ((wordOf (bs.take i)).map fun c => (⟨#[c]⟩ : Str))) : StrsAre (ys ++ [.str x t]) ((wordOf (bs.take (i + 1))).map fun c => (⟨#[c]⟩ : Str)) := by
  have e : bs.take (i + 1) = bs.take i ++ [b] := by rw [List.take_add_one, hb]; rfl
  rw [e, wordOf_snoc, if_pos h1, List.map_append, h2]
  exact strsAre_snoc hy _ _
theorem acc_skip {bs : List UInt64} {i : Nat} {b : UInt64} {ys : List Value} (hb : bs[i]? = some b) (h1 : nzF b = false)
    (hy : StrsAre ys ((wordOf (bs.take i)).map fun c => (⟨#[c]⟩ : Str))) : StrsAre ys ((wordOf (bs.take (i + 1))).map fun c => (⟨#[c]⟩ : Str)) := by
  have e : bs.take (i + 1) = bs.take i ++ [b] := by rw [List.take_add_one, hb]; rfl
  rw [e, wordOf_snoc, if_neg (by rw [h1]; simp)]
  exact hy
theorem join_ones' (ws : List Nat) : Txt.join (Str.ofString "") (ws.map fun c => (⟨#[c]⟩ : Str)) = ⟨ws.toArray⟩ := by
  have h := join_nil_signs ⟨ws.toArray⟩
  unfold signs at h
  have e := eq_of_beq (join_plain_closes (Str.ofString "") (ws.map fun c => (⟨#[c]⟩ : Str)))
  rw [e]
  exact h
theorem sum_ones (ws : List Nat) : ((ws.map fun c => (⟨#[c]⟩ : Str)).map (·.length)).sum = ws.length := by
  induction ws with
  | nil => rfl
  | cons a r ih => simp only [List.map_cons, List.sum_cons, ih, List.length_cons]; show 1 + _ = _; omega
section
variable {prog : Program} {w : World} {A : Around} {E : Value → Shared → Prop} {s : Shared} {D : Addr} {ys : List Value} {ws : List Nat} {t : Tok} {Q : Value → Shared → Prop}
theorem join_word (hl : s.heap.IsList D ys.toArray) (hi : StrsAre ys (ws.map fun c => (⟨#[c]⟩ : Str))) (hw : ws.length ≤ 100000)
    (h : ∀ t' k, Q (.str ⟨ws.toArray⟩ t') { s with toks := k }) : wpAny (model prog w) A (call (.builtin "str.join") [.str (Str.ofString "") t, .ref D]) Q E s :=
  join_listW hl hi (by decide) (by rw [sum_ones, List.length_map]; omega) (by rw [join_ones']; exact h)
theorem item_chr {value slice : PySem.Expr} {k : Int} {u : Tok} {x : Str} {c : Nat} (h0 : 0 ≤ k) (hz : k < 100000) (hx : x.cps[k.toNat]? = some c) (h : Q (.str ⟨#[c]⟩ s.toks) { s with toks := s.toks + 1 })
    (hs : subscripted slice false (.str x t) (.int k u) = operate [.str x t, .int k u] (getItem (.str x t) (.int k u)) := by with_unfolding_all rfl)
    (ht : ∀ r, letTemporaryGo value (.str x t) r = pure () := by intro _; with_unfolding_all rfl) :
    wpAny (model prog w) A (subscriptTail value slice (.str x t) (.int k u)) Q E s := by
  have hlt : k.toNat < x.cps.size := by
    rcases Nat.lt_or_ge k.toNat x.cps.size with h | h
    · exact h
    · rw [Array.getElem?_eq_none h] at hx; cases hx
  have hlen : x.length = x.cps.size := rfl
  have e : Txt.item x k = ⟨#[c]⟩ := PyProof.Rows.item_meets h0 hx
  refine item_str (by unfold fitsSsize; simp; omega) (by rw [hlen]; omega) (by rw [hlen]; omega) (fun _ => by rw [e]; exact h) hs ht
end
section
variable {prog : Program} {w : World} {A : Around} {h₀ : Heap} {L : Addr} {m : Str → Option Value} {env : Env} {elt : Expr} {x : Str} {scope : Scope} {cl : List (Str × Addr)} {s₁ : Shared} {Fin : Shared → List Value → List (Addr × Obj) → Prop} {news : List (Addr × Obj)}
theorem src_range2 (R : Nat → Value → Prop) {r : Addr} {a b : Int} {t u v : Tok} {n : Nat}
    (hh : A.handled = none) (F : Fr h₀ L s₁.heap m) (N : News h₀ L s₁.heap news) (hr : IsRange s₁.heap r a b 1 t u v) (ha : -100000 ≤ a) (ha' : a ≤ 100000) (hb1 : -100000 ≤ b) (hb2 : b ≤ 100000) (hn : n = (b - a).toNat)
    (step : ∀ i t I oI C oC D m₂ h tk ys (E' : Value → Shared → Prop), i < n → LCg.NsObj oC m₂ → m₂ x = some (.int (a + (i : Int)) t) → Fr h₀ L h m → News h₀ L h ((I, oI) :: (C, oC) :: (D, LCg.lst ys) :: news) → LCg.Off3 I C D news → ((@Ne Nat I C) ∧ (@Ne Nat I D) ∧ (@Ne Nat C D)) →
      wpAny (model prog w) A (eval elt (compEnvC scope cl C env)) (fun y s' => Stop (∃ h' tk', s' = { s₁ with heap := h', toks := tk' } ∧ Fr h₀ L h' m ∧ News h₀ L h' ((I, oI) :: (C, oC) :: (D, LCg.lst ys) :: news) ∧ R i y)) E' { s₁ with heap := h, toks := tk })
    (fin : ∀ g (ys : List Value), ys.length = n → (∀ j, j < n → ∃ y, ys[j]? = some y ∧ R j y) → Fin { s₁ with heap := g } ys news) :
    LCg.CompSrc prog w A h₀ L m env elt x scope cl Fin (.ref r) s₁ :=
  LCg.CompSrc.range hh F N hr (small_one (by omega) (by omega) (by omega) (by omega)) (by rw [rangeSize_nat, hn]) (by rw [sizeLine_eq]; omega) fun g =>
    comp_ind R n trivial (fun i v I oI C oC D m₂ h tk ys E' hi hP hC hx F N off ne => by
      obtain ⟨t, rfl⟩ := hP
      exact step i t I oI C oC D m₂ h tk ys E' hi hC hx F N off ne) (fun ys hl hy => fin g ys hl hy) n 0 [] (by omega) rfl (fun j hj => absurd hj (Nat.not_lt_zero _))
end
theorem chF_t {b : UInt64} (h : (Float64.cmpInt b 0 == some Ordering.gt) = true) : Str.ofString "a" = ⟨#[chF b]⟩ := by
  unfold chF psF; rw [if_pos h]; decide +kernel
theorem chF_f {b : UInt64} (h : (Float64.cmpInt b 0 == some Ordering.gt) = false) : Str.ofString "A" = ⟨#[chF b]⟩ := by
  unfold chF psF; rw [h]; decide +kernel
section
variable {prog : Program} {w : World} {A : Around} {E : Value → Shared → Prop} {s : Shared} {ws : List Nat} {t : Tok} {Q : Value → Shared → Prop}
theorem len_word (hz : ws.length ≤ 100000) (h : Q (.int (ws.length : Int) (s.toks + 1)) { s with toks := s.toks + 1 + 1 }) : wpAny (model prog w) A (call (.builtin "len") [.str ⟨ws.toArray⟩ t]) Q E s := by
  have e : (Str.mk ws.toArray).length = ws.length := by simp [Str.length]
  exact len_str (by rw [e]; omega) (by rw [e]; exact h)
end
theorem word_at {ws : List Nat} {i : Nat} (h : i < ws.length) : (Str.mk ws.toArray).cps[i]? = some (ws.getD i 0) := by
  show ws.toArray[i]? = _
  rw [List.getElem?_toArray, List.getD_eq_getElem?_getD, List.getElem?_eq_getElem h]
  rfl
end
end PartCL2
section PartCL3
open PySem PySem.W PySem.Spec PySem.Calls PyProof.Rows
section
section
variable {prog : Program} {w : World} {A : Around} {E : Value → Shared → Prop} {s : Shared} {h₀ : Heap} {L : Addr} {m : Str → Option Value} {news : List (Addr × Obj)} {l : Addr} {v : Value} {x : Int} {u : Tok} {k : Nat} {Q : Value → Shared → Prop}
theorem rep_flat (v : Value) : ∀ k : Nat, (List.replicate k [v]).flatten = List.replicate k v
  | 0 => rfl
  | k + 1 => by rw [List.replicate_succ, List.flatten_cons, rep_flat v k]; rfl
theorem rep_mul (F : Fr h₀ L s.heap m) (N : News h₀ L s.heap news) (hl : s.heap.IsList l #[v]) (hx : x = (k : Int)) (hk : k ≤ 100)
    (h : ∀ D h', Fr h₀ L h' m → News h₀ L h' ((D, W.listOf (List.replicate k v).toArray 0) :: news) → (∀ p ∈ news, p.1 < D) → Q (.ref D) { s with heap := h' }) : wpAny (model prog w) A (binaryOp .Mult (.ref l) (.int x u)) Q E s := by
  subst hx
  exact KMa.mul (vs := [v]) F N hl (by omega) (by omega) (by simp; omega) (by rw [Int.toNat_natCast, rep_flat]) h
end
end
end PartCL3
section PartCL4
open PySem PySem.W PySem.Spec PySem.Calls PyProof.Rows
section
section
variable {prog : Program} {w : World} {A : Around} {E : Value → Shared → Prop} {s : Shared} {h₀ : Heap} {L D : Addr} {m : Str → Option Value} {news : List (Addr × Obj)} {vs : List Value} {v : Value} {n : Nat} {k : Int} {t : Tok} {Q : Unit → Shared → Prop}
theorem set_head (F : Fr h₀ L s.heap m) (N : News h₀ L s.heap ((D, W.listOf vs.toArray n) :: news)) (hoff : ∀ q ∈ news, q.1 ≠ D) (h0 : 0 ≤ k) (h1 : k < vs.length) (hz : vs.length ≤ 100000)
    (h : ∀ h', Fr h₀ L h' m → News h₀ L h' ((D, W.listOf (vs.set k.toNat v).toArray n) :: news) → Q () { s with heap := h' }) :
    wpAny (model prog w) A (setItem (.ref D) (.int k t) v) Q E s := by
  have z := N (D, W.listOf vs.toArray n) (List.Mem.head _)
  have hs : vs.toArray.size = vs.length := by simp
  refine ki_setAt z.1 h0 (by omega) (by omega) (h _ (F.change (Heap.SameBut.update ..) z.2.1 z.2.2) (ki_turn (pre := []) _ N (fun _ h => nomatch h) hoff ?_ ?_))
  · show vs.toArray.setIfInBounds k.toNat v = (vs.set k.toNat v).toArray
    apply Array.toList_inj.mp
    simp
  · simp
end
theorem p65 (k : Nat) : (2 : Int) ^ (16 * k) = 65536 ^ k := by rw [Int.pow_mul]; rfl
theorem p65pos (k : Nat) : (0 : Int) < 65536 ^ k := Int.pow_pos (by decide)
theorem and_high (x s : Nat) : x &&& (x / 2 ^ s * 2 ^ s) = x / 2 ^ s * 2 ^ s := by
  apply Nat.eq_of_testBit_eq
  intro j
  rw [Nat.testBit_and, Nat.testBit_mul_two_pow, Nat.testBit_div_two_pow]
  by_cases h : s ≤ j
  · simp [h, Nat.sub_add_cancel h]
  · simp [h]
theorem xor_high {x : Int} (hx : 0 ≤ x) (s : Nat) : Builtin.bitXor x (x.fdiv (2 ^ s) * 2 ^ s) = x % 2 ^ s := by
  have hp : (0 : Int) < 2 ^ s := Int.pow_pos (by decide)
  obtain ⟨n, rfl⟩ := Int.eq_ofNat_of_zero_le hx
  have e1 : (n : Int).fdiv (2 ^ s) = ((n / 2 ^ s : Nat) : Int) := by
    rw [Int.fdiv_eq_ediv_of_nonneg _ (Int.le_of_lt hp)]; simp
  have e2 : (n : Int).fdiv (2 ^ s) * 2 ^ s = ((n / 2 ^ s * 2 ^ s : Nat) : Int) := by rw [e1]; simp
  rw [e2, bitXor_and, bitAnd_pp (Int.natCast_nonneg _) (Int.natCast_nonneg _)]
  simp only [Int.toNat_natCast]
  rw [and_high]
  have := Nat.div_add_mod n (2 ^ s)
  have e3 : ((n : Int) % 2 ^ s) = ((n % 2 ^ s : Nat) : Int) := by simp
  rw [e3]
  rw [Nat.mul_comm] at this
  omega
theorem dig_low {x : Int} {i k : Nat} (h : i < k) : x % 65536 ^ k / 65536 ^ i % 65536 = x / 65536 ^ i % 65536 := by
  have e : (65536 : Int) ^ k = 65536 ^ i * (65536 * 65536 ^ (k - i - 1)) := by
    rw [← Int.pow_succ', ← Int.pow_add]; congr 1; omega
  have hp := p65pos i
  have h2 : x % 65536 ^ k / 65536 ^ i = x / 65536 ^ i % (65536 * 65536 ^ (k - i - 1)) := by
    rw [e]
    have d1 := Int.emod_def x (65536 ^ i * (65536 * 65536 ^ (k - i - 1)))
    rw [d1, Int.emod_def, ← Int.ediv_ediv_of_nonneg (Int.le_of_lt hp)]
    rw [Int.mul_assoc]
    rw [Int.sub_mul_ediv_left _ _ (Int.ne_of_gt hp)]
  rw [h2]
  exact Int.emod_emod_of_dvd _ (Int.dvd_mul_right _ _)
theorem dig_high {x : Int} {i k : Nat} : x / 65536 ^ k / 65536 ^ i % 65536 = x / 65536 ^ (k + i) % 65536 := by
  rw [Int.ediv_ediv_of_nonneg (Int.le_of_lt (p65pos k)), ← Int.pow_add]
theorem p65_le {j : Nat} (h : j ≤ 4) : (65536 : Int) ^ j ≤ 2 ^ 64 := by
  rcases (by omega : j = 0 ∨ j = 1 ∨ j = 2 ∨ j = 3 ∨ j = 4) with rfl | rfl | rfl | rfl | rfl <;> decide
end
end PartCL4
section PartCL5
open PySem PySem.W PySem.Spec PySem.Calls PyProof.Rows
section
noncomputable def TabIn (pos : Pos) (qual : Str) (ps : Array Value) (led : List (Addr × Obj)) : Prop :=
  ps = #[] ∨ ∃ c' oc vsC tq, ps = #[rawInt pos.line, rawInt pos.col, .ref c'] ∧ (c', oc) ∈ led ∧ oc.data = .fields vsC ∧ vsC[1]? = some (.str qual tq)
theorem TabIn.mono {pos : Pos} {q q' : Str} {ps : Array Value} {l l' : List (Addr × Obj)} (h : TabIn pos q ps l) (e : q = q') (hs : ∀ p ∈ l, p ∈ l') : TabIn pos q' ps l' := by
  subst e
  rcases h with h | ⟨a, b, c, d, h1, h2, h3⟩
  · exact .inl h
  · exact .inr ⟨a, b, c, d, h1, hs _ h2, h3⟩
section
variable {M : Model} {A : Around} {E : Value → Shared → Prop} {s : Shared} {h₀ : Heap} {L a c P : Addr} {m mg mb : Str → Option Value} {cn : Str} {cs : Scope} {ccd : Value} {cl : List (Str × Addr)} {news : List (Addr × Obj)}
  {p : Program} {loose : List Str} {mean : ExcName → Option Value} {name qual : Str} {params : Arguments} {body : List Stmt} {scope : Scope} {ps : Array Value} {pos : Pos} {firstLine : Nat} {clos : List (Str × Addr)}
theorem nest_any {Q : Value → Shared → Prop} (F : Fr h₀ L s.heap m) (N : News h₀ L s.heap ((P, tabObj ps) :: news)) (T : Top p loose mean mg mb h₀) (C : CodeHd h₀ c P) (hcd : ccd = .ref c)
    (hP : ∀ q ∈ news, @Ne Nat q.1 P) {news0 : List (Addr × Obj)} (hsub : ∀ q ∈ news0, q ∈ news) (hps : TabIn pos qual ps news0)
    (hcl : closureFor scope (envX cn cs L a ccd cl) = pure clos)
    (h : ∀ f c' oc vsC t ctv doc h' tk, Fr h₀ L h' m →
      News h₀ L h' ((P, tabObj #[rawInt pos.line, rawInt pos.col, .ref c']) :: (f, fnMade name qual params body scope clos doc ((mg "__name__").getD .none) c' ctv) :: (c', oc) :: news) →
      oc.data = .fields vsC → vsC[1]? = some (.str qual t) → (∀ q ∈ (P, tabObj ps) :: news, @LT.lt Nat _ q.1 f) → @Ne Nat c' P → ((c', oc) ∈ news0 ∨ ∀ q ∈ news, @LT.lt Nat _ q.1 c') → Q (.ref f) { s with heap := h', toks := tk }) :
    wpAny M A (makeFunction name qual params (.stmts body) scope (envX cn cs L a ccd cl) [] [] [] pos firstLine) Q E s := by
  rcases hps with rfl | ⟨c', oc, vsC, tq, rfl, hm, hd, hv⟩
  · refine nest_K F N T C hcd (UpdF.head (fun q hq => hP q hq)) trivial rfl hcl fun f c' oc vs t ctv doc h' tk F' N' hd hv l1 l2 => ?_
    refine h f c' oc vs t ctv doc h' tk F' (fun q hq => N' q ?_) hd hv (fun q hq => Nat.lt_trans (l1 q hq) l2) (Nat.ne_of_gt (l1 _ (List.Mem.head _))) (.inr fun q hq => l1 q (List.mem_cons_of_mem _ hq))
    simp only [List.mem_cons] at hq ⊢
    rcases hq with hq | hq | hq | hq
    · exact .inr (.inr (.inl hq))
    · exact .inl hq
    · exact .inr (.inl hq)
    · exact .inr (.inr (.inr hq))
  · have hm0 := hm
    replace hm := hsub _ hm
    refine nestHit_K (c' := c') F N T C hcd (List.Mem.head _) trivial (by simp [codeAmong, rawInt]) hcl fun f ctv doc h' tk F' N' l1 => ?_
    refine h f c' oc vsC tq ctv doc h' tk F' (fun q hq => N' q ?_) hd hv l1 (hP _ hm) (.inl hm0)
    simp only [List.mem_cons] at hq ⊢
    rcases hq with hq | hq | hq | hq
    · exact .inr (.inl hq)
    · exact .inl hq
    · exact .inr (.inr (hq ▸ hm))
    · exact .inr (.inr hq)
end
end
end PartCL5
section PartCL6
open PySem PySem.W PySem.Spec PySem.Calls PyProof.Rows
section
section
variable {prog : Program} {w : World} {A : Around} {E : Value → Shared → Prop} {s : Shared} {env : Env} {h₀ : Heap} {xn : Str} {body : List Stmt} {Q : Flow → Shared → Prop} {m : Str → Option Value} {news : List (Addr × Obj)}
noncomputable def ForNext (h₀ : Heap) (L : Addr) (s : Shared) (I : Addr) (oI : Obj) (J : (Str → Option Value) → List (Addr × Obj) → Prop) (s' : Shared) : Prop :=
  ∃ h' tk' m₂ news₂, s' = { s with heap := h', toks := tk' } ∧ Fr h₀ L h' m₂ ∧ News h₀ L h' ((I, oI) :: news₂) ∧ (∀ p ∈ news₂, @Ne Nat p.1 I) ∧ J m₂ news₂
noncomputable def ForPost (h₀ : Heap) (L : Addr) (s : Shared) (I : Addr) (oI : Obj) (J : (Str → Option Value) → List (Addr × Obj) → Prop) (Q : Flow → Shared → Prop) : Flow → Shared → Prop
  | .ret v, s' => Q (.ret v) s'
  | .brk, s' => Q .next s'
  | .cont, s' => ForNext h₀ L s I oI J s'
  | .next, s' => ForNext h₀ L s I oI J s'
theorem for_core {I : Addr} {n : Nat} {P : Nat → Value → Prop} {St : Nat → Heap → Prop} (W : Walks prog w A I [I] [I] n P St) (hI : env.locals ≠ I) (hn : h₀.get? I = none) (hnI : ∀ p ∈ news, p.1 ≠ I)
    (hst : St 0 s.heap) (hget : ∀ i h, St i h → ∃ o, h.get? I = some o) (F : Fr h₀ env.locals s.heap m) (N : News h₀ env.locals s.heap news)
    (J : Nat → (Str → Option Value) → List (Addr × Obj) → Prop) (h0 : J 0 m news)
    (step : ∀ i v m₁ news₁ h tk oI, i < n → P i v → J i m₁ news₁ → (∀ p ∈ news₁, @Ne Nat p.1 I) → Fr h₀ env.locals h (fun y => if y = xn then some v else m₁ y) → News h₀ env.locals h ((I, oI) :: news₁) →
      wpAny (model prog w) A (execs body env) (fun f s' => Stop (ForPost h₀ env.locals s I oI (J (i + 1)) Q f s')) E { s with heap := h, toks := tk })
    (fin : ∀ h' tk m' news', Fr h₀ env.locals h' m' → News h₀ env.locals h' news' → J n m' news' → Q .next { s with heap := h', toks := tk }) :
    LoopAtV prog w A h₀ env xn body Q E (.ref I) s := by
  refine ⟨I, [I], [I], n, P, St, m, news, J, rfl, W, fun h => hI (List.mem_singleton.mp h), fun b hb => by rw [List.mem_singleton.mp hb]; exact hn, fun p hp h => hnI p hp (List.mem_singleton.mp h), hst, F, N, h0, ?_, fun h' tk m' news' F' N' _ hJ => fin h' tk m' news' F' N' hJ⟩
  rintro i v m₁ news₁ s₁ own ⟨h, tk, rfl⟩ hi hP hJ hoff hsub hown hall hst₁ F₁ N₁
  obtain ⟨oI, hoI⟩ := hget _ _ hst₁
  have hm : (I, oI) ∈ own := hall I (.head _) hn oI hoI
  have hone : ∀ p ∈ own, p = (I, oI) := fun p hp => by
    have e1 := List.mem_singleton.mp (hsub p hp)
    have e2 := hown p hp
    rw [e1] at e2
    have e3 : some oI = some p.2 := hoI.symm.trans e2
    exact Prod.ext e1 (Option.some.inj e3).symm
  have N₂ : News h₀ env.locals h ((I, oI) :: news₁) := fun p hp => by
    rcases List.mem_cons.mp hp with e | hp
    · rw [e]; exact N₁ _ (List.mem_append_left _ hm)
    · exact N₁ _ (List.mem_append_right _ hp)
  have back : ∀ {s' : Shared}, ForNext h₀ env.locals s I oI (J (i + 1)) s' → LoopStepU h₀ env.locals [I] own (J (i + 1)) { s with heap := h, toks := tk } .next s' := by
    rintro s' ⟨h', tk', m₂, news₂, rfl, F₂, N₃, ho, j⟩
    refine ⟨rfl, h', tk', m₂, news₂, rfl, F₂, fun p hp => ?_, fun p hp hq => ho p hp (List.mem_singleton.mp hq), j⟩
    rcases List.mem_append.mp hp with hp | hp
    · rw [hone p hp]; exact N₃ _ (.head _)
    · exact N₃ _ (.tail _ hp)
  refine wpAny_mono (step i v m₁ news₁ h tk oI hi hP hJ (fun p hp e => hoff p hp (List.mem_singleton.mpr e)) F₁ N₂) (fun f s' hs => ?_) fun _ _ e => e
  cases f with
  | ret v => exact hs
  | brk => exact hs
  | cont => exact back hs
  | next => exact back hs
theorem for_str {x : Str} {t : Tok} (J : Nat → (Str → Option Value) → List (Addr × Obj) → Prop)
    (hh : A.handled = none) (F : Fr h₀ env.locals s.heap m) (N : News h₀ env.locals s.heap news) (h0 : J 0 m news)
    (step : ∀ i c u m₁ news₁ h tk I oI, i < x.cps.size → x.cps[i]? = some c → J i m₁ news₁ → (∀ p ∈ news₁, @Ne Nat p.1 I) → (∀ p ∈ news, @LT.lt Nat _ p.1 I) → Fr h₀ env.locals h (fun y => if y = xn then some (.str ⟨#[c]⟩ u) else m₁ y) → News h₀ env.locals h ((I, oI) :: news₁) →
      wpAny (model prog w) A (execs body env) (fun f s' => Stop (ForPost h₀ env.locals s I oI (J (i + 1)) Q f s')) E { s with heap := h, toks := tk })
    (fin : ∀ h' tk m' news', Fr h₀ env.locals h' m' → News h₀ env.locals h' news' → J x.cps.size m' news' → Q .next { s with heap := h', toks := tk }) :
    wpAny (model prog w) A (pyIter (.str x t)) (fun it s₂ => LoopAtV prog w A h₀ env xn body Q E it s₂) E s := by
  by_cases ha : x.cps.all (· < 128) = true
  · refine wpAny_pyIter_ascii ha ?_
    refine for_core (Walks.strAscii hh _ x t) (fun e => absurd F.ns.lt (e ▸ Nat.lt_irrefl _)) (next_is_new F) (fun p hp => Nat.ne_of_lt (Heap.lt_size (N p hp).1)) ⟨_, Heap.get?_push_size _ rfl, rfl, rfl⟩ (fun i h st => by obtain ⟨o, e, _⟩ := st; exact ⟨o, e⟩) (F.push _) (fun p hp => ⟨Heap.get?_push_of_some _ (N p hp).1, (N p hp).2⟩) J h0 ?_ fin
    rintro i v m₁ news₁ h tk oI hi ⟨c, u, hc, rfl⟩ hJ ho F₁ N₁
    exact step i c u m₁ news₁ h tk _ oI hi hc hJ ho (fun p hp => Heap.lt_size (N p hp).1) F₁ N₁
  · refine wpAny_pyIter_wide (by simpa using ha) ?_
    refine for_core (Walks.strWide hh _ x t) (fun e => absurd F.ns.lt (e ▸ Nat.lt_irrefl _)) (next_is_new F) (fun p hp => Nat.ne_of_lt (Heap.lt_size (N p hp).1)) ⟨_, Heap.get?_push_size _ rfl, rfl, rfl⟩ (fun i h st => by obtain ⟨o, e, _⟩ := st; exact ⟨o, e⟩) (F.push _) (fun p hp => ⟨Heap.get?_push_of_some _ (N p hp).1, (N p hp).2⟩) J h0 ?_ fin
    rintro i v m₁ news₁ h tk oI hi ⟨c, u, hc, rfl⟩ hJ ho F₁ N₁
    exact step i c u m₁ news₁ h tk _ oI hi hc hJ ho (fun p hp => Heap.lt_size (N p hp).1) F₁ N₁
theorem for_range {r : Addr} {a b : Int} {t₀ u₀ v₀ : Tok} {n : Nat} (J : Nat → (Str → Option Value) → List (Addr × Obj) → Prop)
    (hh : A.handled = none) (F : Fr h₀ env.locals s.heap m) (N : News h₀ env.locals s.heap news) (hr : IsRange s.heap r a b 1 t₀ u₀ v₀) (ha : -100000 ≤ a) (ha' : a ≤ 100000) (hb1 : -100000 ≤ b) (hb2 : b ≤ 100000) (hn : n = (b - a).toNat) (h0 : J 0 m news)
    (step : ∀ i u m₁ news₁ h tk I oI, i < n → J i m₁ news₁ → (∀ p ∈ news₁, @Ne Nat p.1 I) → (∀ p ∈ news, @LT.lt Nat _ p.1 I) → Fr h₀ env.locals h (fun y => if y = xn then some (.int (a + (i : Int)) u) else m₁ y) → News h₀ env.locals h ((I, oI) :: news₁) →
      wpAny (model prog w) A (execs body env) (fun f s' => Stop (ForPost h₀ env.locals s I oI (J (i + 1)) Q f s')) E { s with heap := h, toks := tk })
    (fin : ∀ h' tk m' news', Fr h₀ env.locals h' m' → News h₀ env.locals h' news' → J n m' news' → Q .next { s with heap := h', toks := tk }) :
    wpAny (model prog w) A (pyIter (.ref r)) (fun it s₂ => LoopAtV prog w A h₀ env xn body Q E it s₂) E s := by
  refine wpAny_pyIter_range hr (small_one (by omega) (by omega) (by omega) (by omega)) ?_
  have hsz : Builtin.Range.rangeSize a b 1 = (n : Int) := by rw [rangeSize_nat, hn]
  have W : Walks prog w A s.heap.objs.size [s.heap.objs.size] [s.heap.objs.size] n (fun i v => i < n ∧ ∃ t, v = .int (a + i * 1) t)
      (fun i h => IsRangeIter h s.heap.objs.size (a + (i : Nat) * 1) ((n : Int) - (i : Nat)) 1) := (Walks.range hh _ a 1 n).bound
  refine for_core W (fun e => absurd F.ns.lt (e ▸ Nat.lt_irrefl _)) (next_is_new F) (fun p hp => Nat.ne_of_lt (Heap.lt_size (N p hp).1)) (by show IsRangeIter _ _ _ _ _; rw [hsz]; simpa using Heap.get?_push_size _ rfl) (fun i h st => ⟨_, st⟩) (F.push _) (fun p hp => ⟨Heap.get?_push_of_some _ (N p hp).1, (N p hp).2⟩) J h0 ?_ fin
  rintro i v m₁ news₁ h tk oI hi ⟨_, u, rfl⟩ hJ ho F₁ N₁
  exact step i u m₁ news₁ h tk _ oI hi hJ ho (fun p hp => Heap.lt_size (N p hp).1) (by simpa using F₁) N₁
end
end
end PartCL6
section PartCL7
open PySem PySem.W PySem.Spec PySem.Calls PyProof.Rows
section
inductive WitIn (led : List (Addr × Obj)) : List Value → List (Int × Int × Int) → Prop
  | nil : WitIn led [] []
  | snoc {vs rs} (T : Addr) (a b c : Int) (t1 t2 t3 : Tok) : WitIn led vs rs → (T, ({ cls := .type "tuple", data := .seq [.int a t1, .int b t2, .int c t3].toArray } : Obj)) ∈ led → WitIn led (vs ++ [.ref T]) (rs ++ [(a, b, c)])
theorem WitIn.mono {led led' : List (Addr × Obj)} {vs rs} (h : WitIn led vs rs) (k : ∀ p ∈ led, p ∈ led') : WitIn led' vs rs := by
  induction h with
  | nil => exact .nil
  | snoc T a b c t1 t2 t3 _ hm ih => exact .snoc T a b c t1 t2 t3 ih (k _ hm)
theorem WitIn.length {led vs rs} (h : WitIn led vs rs) : vs.length = rs.length := by
  induction h with
  | nil => rfl
  | snoc T a b c t1 t2 t3 _ hm ih => simp [ih]
noncomputable def witR (f g : Int → Int) : Nat → List (Int × Int × Int)
  | 0 => []
  | i + 1 => if f (1 + (i : Int)) ≠ g (1 + (i : Int)) then witR f g i ++ [((1 : Int) + (i : Int), f (1 + (i : Int)), g (1 + (i : Int)))] else witR f g i
theorem witR_length (f g : Int → Int) : ∀ n, (witR f g n).length ≤ n
  | 0 => Nat.le_refl _
  | n + 1 => by
    have := witR_length f g n
    unfold witR; split
    · simp; omega
    · omega
theorem witR_congr {f g f' g' : Int → Int} : ∀ n : Nat, (∀ k : Int, 1 ≤ k → k ≤ n → f k = f' k ∧ g k = g' k) → witR f g n = witR f' g' n
  | 0, _ => rfl
  | n + 1, h => by
    have h1 := h (1 + n) (by omega) (by omega)
    have h2 := witR_congr n fun k a b => h k a (by omega)
    unfold witR; rw [h1.1, h1.2, h2]
end
end PartCL7
section PartCL8
open PySem PySem.W PySem.Spec PySem.Calls PyProof.Rows
section
section
variable {prog : Program} {w : World} {A : Around} {E : Value → Shared → Prop} {s : Shared} {h₀ : Heap} {L D l b : Addr} {m : Str → Option Value} {news news' : List (Addr × Obj)} {vs ws : List Value} {v : Value} {n : Nat} {k : Int} {t : Tok}
theorem add_L {Q : Value → Shared → Prop} (F : Fr h₀ L s.heap m) (N : News h₀ L s.heap news) (ha : s.heap.IsList l vs.toArray) (hb : s.heap.IsList b ws.toArray)
    (hz : vs.length + ws.length ≤ 100000)
    (h : ∀ D h', Fr h₀ L h' m → News h₀ L h' ((D, W.listOf (vs ++ ws).toArray 0) :: news) → (∀ p ∈ news, p.1 < D) → Q (.ref D) { s with heap := h' }) :
    wpAny (model prog w) A (binaryOp .Add (.ref l) (.ref b)) Q E s :=
  kmk_add_lit F N ha hb (by simp) h (by rw [sizeLine_eq]; simp; omega)
end
theorem ints_append {vs ws : List Value} {is js : List Int} (h : IntsAre vs is) (k : IntsAre ws js) : IntsAre (vs ++ ws) (is ++ js) := by
  induction h with
  | nil => exact k
  | cons i t _ ih => exact .cons i t ih
theorem ints_rep (t : Tok) : ∀ k : Nat, IntsAre (List.replicate k (Value.int 0 t)) (List.replicate k 0)
  | 0 => .nil
  | k + 1 => .cons 0 t (ints_rep t k)
theorem ints_get {vs : List Value} {is : List Int} (h : IntsAre vs is) : ∀ i, i < is.length → ∃ t, vs[i]? = some (.int (is.getD i 0) t) := by
  induction h with
  | nil => intro i hi; simp at hi
  | cons a t _ ih =>
    intro i hi
    cases i with
    | zero => exact ⟨t, rfl⟩
    | succ i => obtain ⟨u, e⟩ := ih i (by simpa using hi); exact ⟨u, by simpa using e⟩
noncomputable def pad (l : List Int) (b : Nat) : List Int := if l.length ≤ b then l ++ List.replicate (b - l.length + 1) 0 else l
noncomputable def bump (l : List Int) (b : Nat) : List Int := (pad l b).set b ((pad l b).getD b 0 + 1)
noncomputable abbrev WS := List Int × Nat × Nat
noncomputable def wsS (σ : WS) (k : Nat) : WS := if k = 32 then (σ.1, σ.2.1 + 1, σ.2.2) else (bump σ.1 σ.2.1, 0, σ.2.2 + 1)
noncomputable def wsF (l : List Nat) : WS := l.foldl wsS ([], 0, 0)
theorem wsF_snoc (l : List Nat) (k : Nat) : wsF (l ++ [k]) = wsS (wsF l) k := by unfold wsF; rw [List.foldl_append]; rfl
theorem pad_length (l : List Int) (b : Nat) : (pad l b).length = max l.length (b + 1) := by
  unfold pad
  split
  · simp; omega
  · omega
theorem bump_length (l : List Int) (b : Nat) : (bump l b).length = max l.length (b + 1) := by
  unfold bump; rw [List.length_set, pad_length]
noncomputable def snocInd {α : Type} {P : List α → Prop} (h0 : P []) (h1 : ∀ l a, P l → P (l ++ [a])) : ∀ n (l : List α), l.length = n → P l
  | 0, l, h => by rw [List.length_eq_zero_iff] at h; subst h; exact h0
  | n + 1, l, h => by
    have hne : l ≠ [] := fun e => by subst e; simp at h
    have e := List.dropLast_concat_getLast hne
    rw [← e]
    exact h1 _ _ (snocInd h0 h1 n _ (by simp [h]))
theorem wsF_bound (l : List Nat) : (wsF l).1.length ≤ l.length + 1 ∧ (wsF l).2.1 ≤ l.length ∧ (wsF l).2.2 ≤ l.length := by
  refine snocInd (P := fun l => (wsF l).1.length ≤ l.length + 1 ∧ (wsF l).2.1 ≤ l.length ∧ (wsF l).2.2 ≤ l.length) ⟨by simp [wsF], by simp [wsF], by simp [wsF]⟩ ?_ l.length l rfl
  intro l a ⟨h1, h2, h3⟩
  rw [wsF_snoc]
  unfold wsS
  by_cases e : a = 32
  · rw [if_pos e]; simp; omega
  · rw [if_neg e]; simp only [bump_length, List.length_append, List.length_cons, List.length_nil]; omega
end
section
theorem led_out {h₀ h : Heap} {L : Addr} {a b : Addr × Obj} {tl : List (Addr × Obj)} (N : News h₀ L h (a :: b :: tl)) : ∃ tl', tl' = tl ∧ News h₀ L h (a :: tl') :=
  ⟨tl, rfl, fun p hp => N p (by rcases List.mem_cons.mp hp with e | hp; exact e ▸ .head _; exact .tail _ (.tail _ hp))⟩
theorem led_tl {h₀ h : Heap} {L : Addr} {a : Addr × Obj} {tl : List (Addr × Obj)} (N : News h₀ L h (a :: tl)) : ∃ tl', tl' = tl ∧ News h₀ L h (a :: tl') := ⟨tl, rfl, N⟩
end
section
section
variable {prog : Program} {w : World} {A : Around} {E : Value → Shared → Prop} {s : Shared} {h₀ : Heap} {L : Addr} {m : Str → Option Value} {news : List (Addr × Obj)} {l : Addr} {v : Value} {x : Int} {u : Tok} {Q : Value → Shared → Prop}
theorem rep_mul2 (F : Fr h₀ L s.heap m) (N : News h₀ L s.heap news) (hl : s.heap.IsList l #[v]) (h0 : 0 ≤ x) (hk : x ≤ 100)
    (h : ∀ D h', Fr h₀ L h' m → News h₀ L h' ((D, W.listOf (List.replicate x.toNat v).toArray 0) :: news) → (∀ p ∈ news, p.1 < D) → Q (.ref D) { s with heap := h' }) : wpAny (model prog w) A (binaryOp .Mult (.ref l) (.int x u)) Q E s :=
  rep_mul F N hl (by omega : x = ((x.toNat : Nat) : Int)) (by omega) h
end
theorem pad_ge {l : List Int} {b : Nat} (h : l.length ≤ b) : pad l b = l ++ List.replicate (b - l.length + 1) 0 := if_pos h
theorem pad_lt {l : List Int} {b : Nat} (h : ¬ l.length ≤ b) : pad l b = l := if_neg h
end
end PartCL8
section PartCL9
open PySem PySem.W PySem.Spec PySem.Calls PyProof.Rows
section
noncomputable abbrev tupO (vs : List Value) : Obj := { cls := .type "tuple", data := .seq vs.toArray }
section
variable {prog : Program} {w : World} {A : Around} {E : Value → Shared → Prop} {s : Shared} {h₀ : Heap} {L : Addr} {m : Str → Option Value} {news : List (Addr × Obj)} {l : Addr} {vs : List Value} {Q : Value → Shared → Prop}
theorem len_tup (ht : IsTup s.heap l vs.toArray) (hz : vs.length ≤ 100000) (h : Q (.int (vs.length : Int) (s.toks + 1)) { s with toks := s.toks + 1 + 1 }) : wpAny (model prog w) A (call (.builtin "len") [.ref l]) Q E s :=
  len_tuple ht (by rw [List.size_toArray]; omega) (by rw [List.size_toArray]; exact h)
theorem seq_pos {k : Int} {n : Nat} (h0 : 0 ≤ k) (hn : k < n) : seqIndex? k n = some k.toNat := by
  unfold seqIndex?
  have h1 : ¬ k < 0 := by omega
  simp [h0, hn, h1]
theorem item_tup {value slice : PySem.Expr} {k : Int} {u : Tok} {v : Value} (ht : IsTup s.heap l vs.toArray) (h0 : 0 ≤ k) (hz : k < vs.length) (hz2 : vs.length ≤ 100000) (hx : vs[k.toNat]? = some v) (h : Q v s)
    (hs : subscripted slice false (.ref l) (.int k u) = operate [.ref l, .int k u] (getItem (.ref l) (.int k u)) := by with_unfolding_all rfl) :
    wpAny (model prog w) A (subscriptTail value slice (.ref l) (.int k u)) Q E s :=
  item_tupleT ht (by omega) (by omega) (seq_pos h0 hz) hx h hs
theorem max_int {a b : Int} {t u : Tok} (hh : A.handled = none) (F : Fr h₀ L s.heap m) (N : News h₀ L s.heap news)
    (h : ∀ t' h' tk, Fr h₀ L h' m → News h₀ L h' news → Q (.int (max a b) t') { s with heap := h', toks := tk }) :
    wpAny (model prog w) A (call (.builtin "max") [.int a t, .int b u]) Q E s :=
  max_two_N hh F N fun h' tk F' N' => by
    have e : (if b > a then b else a) = max a b := by split <;> omega
    rw [e]
    exact h _ h' tk F' N'
end
end
end PartCL9
section PartCS1
open PySem PySem.W PySem.Spec PySem.Calls PyProof.Rows
section
noncomputable abbrev byTx (w : World) : Bool := w.params.followText "set-order"
noncomputable abbrev freshSet (w : World) : Obj := { cls := .type "set", dict := none, data := .set #[] 0 (.fresh 0 0 (!byTx w)) }
noncomputable def SetL (prog : Program) (w : World) (o : Obj) (S : Int → Bool) (n : Nat) : Prop :=
  o.ExactSet ∧ ∃ es ep t, o.data = .set es ep t ∧ ElemsOf (intKind prog w) es.toList ∧ (∀ k, S k = true ↔ ∃ e ∈ es.toList, (intKind prog w).is k e.2 = true) ∧ es.size = n ∧ t.fits es.size = true ∧ (t.led = true ∨ byTx w = true)
section
variable {prog : Program} {w : World} {A : Around} {E : Value → Shared → Prop} {s : Shared}
theorem SetL.objOf {o : Obj} {S : Int → Bool} {n : Nat} (h : SetL prog w o S n) : o.SetObjOf (intKind prog w) S n :=
  let ⟨hex, es, ep, t, hd, hel, hmem, hn, hf, _⟩ := h; ⟨hex, es, ep, t, hd, hel, hmem, hn, hf⟩
theorem setL_fresh : SetL prog w (freshSet w) (fun _ => false) 0 :=
  ⟨⟨rfl, rfl, rfl⟩, #[], 0, _, rfl, fun e he => by simp at he, fun k => by simp, rfl, by rfl, by
    show (!byTx w) = true ∨ _
    cases byTx w <;> simp⟩
theorem newSet_w {Q : Value → Shared → Prop} (h : Q (.ref s.heap.objs.size) { s with heap := s.heap.push (freshSet w) }) :
    wpAny (model prog w) A (newSet (.type "set")) Q E s := by
  unfold newSet setsByText
  refine wpAny_bind (wpAny_bind (wpAny_askSetting (wpAny_pure ?_)))
  dsimp only
  simp only [newObj]
  exact wpAny_bind (wpAny_alloc (wpAny_pure h))
theorem code_set_w {Q₁ : Value → Shared → Prop} (h : Q₁ (.ref s.heap.objs.size) { s with heap := s.heap.push (freshSet w) }) :
    codeAny (model prog w) A (.call (.builtin "set.__new__") ⟨[.type "set"], []⟩) (wants Q₁ E) s := by
  refine codeAny_of_tree ?_
  show wpAny _ A.in1 (do checkBuiltinCall "set.__new__" ⟨[.type "set"], []⟩; again (.builtin "set.__new__" ⟨[.type "set"], []⟩)) _ _ s
  refine wpAny_bind (wpAny_of_eq F.newCall_set_0 (wpAny_pure ⟨plainId_quiet F.plain_set_new _, codeAny_builtin F.entry_set_new ?_⟩))
  rw [Around.under_plainId F.plain_set_new _]
  unfold Builtin.«set.__new__» Builtin.Frozenset.newClass
  have hsub := sub_set_self
  obtain ⟨hp, g, d, tk, os⟩ := s
  dsimp only
  wp_walk
  refine wpAny_askSetting (wpAny_pure ?_)
  dsimp only
  simp only [newObj]
  refine wpAny_bind (wpAny_alloc (wpAny_pure ?_))
  exact wpAny_pure h
theorem call_set_w {Q : Value → Shared → Prop} (h : Q (.ref s.heap.objs.size) { s with heap := s.heap.push (freshSet w) }) :
    wpAny (model prog w) A (call (.type "set") []) Q E s := by
  obtain ⟨c, tl, hmro⟩ := F.called_set.mro
  have hmade := F.called_set.made
  have hsub := F.called_set.sub
  refine wpAny_call (codeAny_of_tree ?_)
  show wpAny _ _ (callAny (.type "set") _) _ _ _
  refine wpAny_pure ⟨Code.quiet_builtin _ (by decide +kernel), codeAny_builtin F.entry_type_call ?_⟩
  rw [Around.under_plain (weight_type_call_type "set" [] []) rfl]
  have h1 := F.called_set.notType
  have h2 := F.called_set.canCreate
  have hct := F.typeCall_set_0
  repeat (any_goals (first | assumption | wp_step))
  refine codeAny_mono (code_set_w (E := E) (Q₁ := fun obj s₁ => obj = .ref s.heap.objs.size ∧ s₁ = { s with heap := s.heap.push (freshSet w) }) ⟨rfl, rfl⟩) fun r s₁ hr => ?_
  cases r with
  | error e => exact hr
  | ok fl =>
    cases fl with
    | ret obj =>
      obtain ⟨rfl, rfl⟩ := hr
      have hS : (s.heap.push (freshSet w)).get? s.heap.objs.size = some (freshSet w) := Heap.get?_push_size _ rfl
      have hT : Shared.TypeIs { s with heap := s.heap.push (freshSet w) } (.ref s.heap.objs.size) "set" := ⟨_, hS, rfl⟩
      have hli := F.called_set.init.lookup
      have hbi := F.called_set.init.bind (.ref s.heap.objs.size)
      repeat (any_goals (first | assumption | wp_step))
      refine codeAny_mono (codeAny_call_builtin (R := wants (fun r s₂ => r = .none ∧ Q (.ref s.heap.objs.size) s₂) E) F.called_set.init.plain F.entry_set_init (check_set_init hT ?_)) fun r₂ s₂ hr₂ => ?_
      · unfold Builtin.«set.__init__» noKeywords
        wp_walk
        exact ⟨rfl, h⟩
      · cases r₂ with
        | error e => exact hr₂
        | ok fl₂ =>
          cases fl₂ with
          | ret r =>
            obtain ⟨rfl, hQ⟩ := hr₂
            repeat (any_goals (first | assumption | wp_step))
          | next => exact hr₂.elim
          | brk => exact hr₂.elim
          | cont => exact hr₂.elim
    | next => exact hr.elim
    | brk => exact hr.elim
    | cont => exact hr.elim
end
end
end PartCS1
section PartCS2
open PySem PySem.W PySem.Spec PySem.Calls PyProof.Rows
section
theorem layNew_led (t : SetTable) (es : Array (Int × Value)) (h : Int) (x : Value) : (layNew t es h x).2.1.led = t.led := by
  unfold layNew
  split
  · unfold SetTable.orStandIn
    dsimp only
    split <;> rfl
  · rfl
theorem relayAll_led (t : SetTable) (es : Array (Int × Value)) (n : Nat) : (relayAll t es n).2.1.led = t.led := by
  unfold relayAll
  split
  · rename_i t' order he
    have hl : t'.led = t.led := by
      unfold SetTable.relaid SetTable.laid at he
      cases hc : SetTable.layClean (SetTable.sizeAbove n - 1) (es.map (·.1)) with
      | none => rw [hc] at he; cases he
      | some ow => rw [hc] at he; cases he; rfl
    dsimp only
    split
    · exact hl
    · rfl
  · rfl
section
variable {prog : Program} {w : World} {A : Around} {E : Value → Shared → Prop} {s : Shared}
theorem get_putSet {h : Heap} {a : Addr} {o : Obj} {es es' : Array (Int × Value)} {ep : Nat} {t t' : SetTable} (ho : h.get? a = some o) (hd : o.data = .set es ep t) :
    (h.update a (Obj.putSet es' t')).get? a = some { o with data := .set es' (ep + 1) t' } := by
  have := Heap.get?_update_self (Obj.putSet es' t') ho (by rw [putSet_of es' t' hd]; rfl)
  rw [putSet_of es' t' hd] at this
  exact this
theorem led_any {t : SetTable} (h : t.led = true ∨ byTx w = true) {t' : SetTable} (e : t'.led = t.led) : t'.led = true ∨ byTx w = true := e ▸ h
theorem setAdd_w {a : Addr} {o : Obj} {S : Int → Bool} {n : Nat} {k : Int} {u : Tok} {Q : Bool → Shared → Prop} (ho : s.heap.get? a = some o) (hS : SetL prog w o S n) (hb : n + 1 < 4096)
    (h : ∀ h' o', Heap.SameBut a s.heap h' → h'.get? a = some o' → SetL prog w o' (fun k' => S k' || decide (k' = k)) (if S k then n else n + 1) → Q (!S k) { s with heap := h', toks := s.toks + 1 }) :
    wpAny (model prog w) A (setAdd a (.int k u)) Q E s := by
  obtain ⟨hex, es, ep, t, hd, hel, hmem, hn, hf, hled⟩ := hS
  have hkey : (intKind prog w).is k (.int k u) = true := intKind_is _ _ _ _
  have hb0 : es.size < scanBound := by rw [hn]; unfold scanBound; omega
  unfold setAdd
  refine wpAny_holding (wpAny_bind ((intKind prog w).pyHash hkey ?_))
  unfold setAddHashed setAddHashedIn
  refine wpAny_holding (wpAny_bind (wpAny_setState_of (s := { s with toks := s.toks + 1 }) ho hd hf ?_))
  dsimp only
  rw [byScan_of rfl hb0 hel]
  simp only [↓reduceIte]
  unfold setAddByScan
  refine wpAny_bind (wpAny_bind (wpAny_rule (wpAny_bind (wpAny_setScan_of hkey ho hd hf hel ?_))))
  cases hr : List.findIdx? (fun e => (intKind prog w).is k e.2) es.toList with
  | some j =>
    dsimp only
    obtain ⟨hj, hpj, _⟩ := List.findIdx?_eq_some_iff_getElem.mp hr
    have hSk : S k = true := (hmem k).mpr ⟨es.toList[j], List.getElem_mem hj, hpj⟩
    refine wpAny_pure (wpAny_pure ?_)
    have := h s.heap o (Heap.SameBut.refl a s.heap) ho ⟨hex, es, ep, t, hd, hel, fun k' => by
      rw [Bool.or_eq_true, decide_eq_true_eq, ← hmem k']
      exact ⟨fun hk => hk.elim id (fun e => e ▸ hSk), .inl⟩, by rw [hSk]; exact hn, hf, hled⟩
    rw [hSk] at this
    exact this
  | none =>
    dsimp only
    have hSk : S k = false := by
      cases hk : S k with
      | false => rfl
      | true => obtain ⟨e, he, hp⟩ := (hmem k).mp hk; have := List.findIdx?_eq_none_iff.mp hr e he; rw [hp] at this; exact Bool.noConfusion this
    have hperm := layNew_perm t es ((intKind prog w).hash k) (.int k u)
    have hfits := layNew_fits t es ((intKind prog w).hash k) (.int k u)
    have hld := layNew_led t es ((intKind prog w).hash k) (.int k u)
    generalize layNew t es ((intKind prog w).hash k) (.int k u) = Y at hperm hfits hld ⊢
    obtain ⟨es1, t1, wasDummy, gave⟩ := Y
    dsimp only at hperm hfits hld ⊢
    rw [Array.toList_push] at hperm
    have hel1 : ElemsOf (intKind prog w) es1.toList := (hel.push hkey rfl).perm hperm
    have hmem1 : ∀ k', (S k' || decide (k' = k)) = true ↔ ∃ e ∈ es1.toList, (intKind prog w).is k' e.2 = true := mem_push_iff hkey hmem hperm
    have hsz1 : es1.size = n + 1 := by rw [← Array.length_toList, hperm.length_eq, List.length_append, Array.length_toList, hn]; rfl
    have hsl : es1.size ≤ sizeLine := by rw [hsz1, sizeLine_eq]; omega
    have hgw : ∀ (b : Bool) {s₁ : Shared} {Q' : Unit → Shared → Prop}, Q' () s₁ → wpAny (model prog w) A (match b with | true => rule "set.scan.the-table-gave-way" | false => pure ()) Q' E s₁ :=
      fun b s₁ Q' hq => by cases b <;> first | exact wpAny_pure hq | exact wpAny_rule hq
    refine wpAny_bind (hgw _ ?_)
    have rest : ∀ t2 : SetTable, t2.fits es1.size = true → t2.led = t1.led → wpAny (model prog w) A (do
        storeSet a es1 t2
        if (!wasDummy && t2.tooFull) = true then do
            (match (relayAll t2 es1 (SetTable.grown es1.size)).2.2 with | true => rule "set.scan.the-table-gave-way" | false => pure ())
            storeSet a (relayAll t2 es1 (SetTable.grown es1.size)).1 (relayAll t2 es1 (SetTable.grown es1.size)).2.1
            pure (some true)
          else pure (some true)) (fun r s' => r = some true ∧ Q true s') E { s with toks := s.toks + 1 } := by
      intro t2 hf2 hl2
      refine wpAny_bind (wpAny_storeSet_of ho hd ?_ hsl)
      have hg1 := get_putSet (es' := es1) (t' := t2) ho hd
      have hsb1 := Heap.SameBut.update s.heap a (Obj.putSet es1 t2)
      split
      · have hp := relayAll_perm t2 es1 (SetTable.grown es1.size)
        have hfr := relayAll_fits t2 es1 (SetTable.grown es1.size)
        have hlr := relayAll_led t2 es1 (SetTable.grown es1.size)
        generalize relayAll t2 es1 (SetTable.grown es1.size) = Rl at hp hfr hlr ⊢
        obtain ⟨es2, t3, gave2⟩ := Rl
        dsimp only at hp hfr hlr ⊢
        have hsz : es2.size = es1.size := by rw [← Array.length_toList, hp.length_eq, Array.length_toList]
        refine wpAny_bind (hgw _ ?_)
        refine wpAny_bind (wpAny_storeSet_of hg1 rfl ?_ (by rw [hsz]; exact hsl))
        have hg2 := get_putSet (es' := es2) (t' := t3) hg1 rfl
        refine wpAny_pure ⟨rfl, ?_⟩
        have := h _ _ (hsb1.trans (Heap.SameBut.update _ a _)) hg2 ⟨hex, es2, _, t3, rfl, hel1.perm hp, fun k' => (hmem1 k').trans ⟨fun ⟨e, he, q⟩ => ⟨e, hp.mem_iff.mpr he, q⟩, fun ⟨e, he, q⟩ => ⟨e, hp.mem_iff.mp he, q⟩⟩, by rw [hSk, hsz, hsz1]; rfl, hfr, led_any hled (hlr.trans (hl2.trans hld))⟩
        rw [hSk] at this
        exact this
      · refine wpAny_pure ⟨rfl, ?_⟩
        have := h _ _ hsb1 hg1 ⟨hex, es1, _, t2, rfl, hel1, hmem1, by rw [hSk, hsz1]; rfl, hf2, led_any hled (hl2.trans hld)⟩
        rw [hSk] at this
        exact this
    split
    · refine wpAny_bind ?_
      rw [hashByValue_scannable 8 rfl]
      refine wpAny_pure ?_
      refine wpAny_mono (rest _ ?_ ?_) (fun r s' ⟨e, hq⟩ => by subst e; exact wpAny_pure hq) fun _ _ e => e
      · split
        · exact hfits
        · exact SetTable.fits_plain_off hfits
      · split <;> rfl
    · refine wpAny_bind (wpAny_pure ?_)
      simp only [↓reduceIte]
      exact wpAny_mono (rest _ hfits rfl) (fun r s' ⟨e, hq⟩ => by subst e; exact wpAny_pure hq) fun _ _ e => e
end
end
end PartCS2
section PartCS3
open PySem PySem.W PySem.Spec PySem.Calls PyProof.Rows
section
section
variable {prog : Program} {w : World} {A : Around} {E : Value → Shared → Prop} {s : Shared}
theorem choose_w {src : Source} {n : Nat} {Q : Nat → Shared → Prop} (hn : n ≠ 0) (h : ∀ i dr, i < n → Q i { s with drawn := dr }) : wpAny (model prog w) A (choose src n) Q E s := fun Γ p _ => by
  unfold choose
  rw [Sem.wp_choose]
  refine ⟨hn, ?_⟩
  exact h _ _ (Nat.mod_lt _ (Nat.pos_of_ne_zero hn))
theorem erase_size {α : Type} {xs : Array α} {i : Nat} (hi : i < xs.size) : (SetTable.eraseAt xs i).size = xs.size - 1 := by
  unfold SetTable.eraseAt
  simp
  omega
theorem erase_mem {α : Type} {xs : Array α} {i : Nat} {x y : α} (hx : xs[i]? = some x) : (y ∈ (SetTable.eraseAt xs i).toList → y ∈ xs.toList) ∧ (y ∈ xs.toList → y = x ∨ y ∈ (SetTable.eraseAt xs i).toList) := by
  have hi : i < xs.size := by
    rcases Nat.lt_or_ge i xs.size with h | h
    · exact h
    · rw [Array.getElem?_eq_none h] at hx; cases hx
  have e : (SetTable.eraseAt xs i).toList = xs.toList.take i ++ xs.toList.drop (i + 1) := by
    unfold SetTable.eraseAt
    simp [List.extract_eq_take_drop]
    exact List.take_of_length_le (by simp)
  have e2 : xs.toList = xs.toList.take i ++ x :: xs.toList.drop (i + 1) := by
    have h3 : xs.toList[i]? = some x := by simpa using hx
    have hil : i < xs.toList.length := by simpa using hi
    have h4 : xs.toList[i] = x := by rw [List.getElem?_eq_getElem hil] at h3; exact Option.some.inj h3
    rw [← h4, List.getElem_cons_drop, List.take_append_drop]
  rw [e]
  constructor
  · intro h
    rw [e2]
    rcases List.mem_append.mp h with h | h
    · exact List.mem_append_left _ h
    · exact List.mem_append_right _ (.tail _ h)
  · intro h
    rw [e2] at h
    rcases List.mem_append.mp h with h | h
    · exact .inr (List.mem_append_left _ h)
    · rcases List.mem_cons.mp h with h | h
      · exact .inl h
      · exact .inr (List.mem_append_right _ h)
theorem popped_fits {t : SetTable} {n i : Nat} (h : t.fits n = true) (hi : i < n) : (t.popped i).fits (n - 1) = true := by
  unfold SetTable.fits SetTable.fill at h
  simp only [Bool.and_eq_true, beq_iff_eq, decide_eq_true_eq] at h
  have hp : i < t.place.size := by omega
  unfold SetTable.fits SetTable.fill SetTable.popped SetTable.drop
  rw [Array.getElem?_eq_getElem hp]
  dsimp only
  have h1 := erase_size hp
  have h2 : (SetTable.insertAt t.dummies (SetTable.below t.dummies t.place[i]) t.place[i]).size = t.dummies.size + 1 := by
    rw [← Array.length_toList, (SetTable.insertAt_perm _ _ _).length_eq]; simp
  simp only [Bool.and_eq_true, beq_iff_eq, decide_eq_true_eq, h1, h2]
  omega
theorem popped_led (t : SetTable) (i : Nat) : (t.popped i).led = t.led := by
  unfold SetTable.popped SetTable.drop
  split <;> rfl
theorem popPlace_lt {t : SetTable} {n : Nat} (h : t.fits n = true) (hn : 0 < n) : ∃ i, t.popPlace = some i ∧ i < n := by
  simp only [SetTable.fits, Bool.and_eq_true, beq_iff_eq, decide_eq_true_eq] at h
  have he : t.place.isEmpty = false := by
    rw [Array.isEmpty_eq_false_iff]
    intro e
    rw [e] at h
    simp at h
    omega
  unfold SetTable.popPlace
  rw [he]
  refine ⟨_, rfl, ?_⟩
  split <;> omega
theorem setPop_w {a : Addr} {o : Obj} {S : Int → Bool} {n : Nat} {Q : Option Value → Shared → Prop} (ho : s.heap.get? a = some o) (hS : SetL prog w o S n) (hn0 : 0 < n) (hb : n < 4096)
    (h : ∀ h' o' S' k u dr, Heap.SameBut a s.heap h' → h'.get? a = some o' → SetL prog w o' S' (n - 1) → S k = true → (∀ j, S' j = true → S j = true) → (∀ j, S j = true → j = k ∨ S' j = true) → Q (some (.int k u)) { s with heap := h', drawn := dr }) :
    wpAny (model prog w) A (setPop a) Q E s := by
  obtain ⟨hex, es, ep, t, hd, hel, hmem, hn, hf, hled⟩ := hS
  obtain ⟨i0, hi0, hlt0⟩ := popPlace_lt hf (by omega)
  unfold setPop
  refine wpAny_bind (wpAny_setState_of ho hd hf ?_)
  dsimp only
  rw [hi0]
  dsimp only
  have tail : ∀ i dr, i < es.size → wpAny (model prog w) A (do
      let some (_, x) := es[i]? | unsupported "internal:set.pop"
      storeSet a (SetTable.eraseAt es i) (t.popped i)
      return some x) Q E { s with drawn := dr } := by
    intro i dr hi
    have hx : es[i]? = some es[i] := Array.getElem?_eq_getElem hi
    rw [hx]
    have hin : es[i] ∈ es.toList := by simp
    obtain ⟨⟨k, hk, _⟩, _⟩ := hel _ hin
    obtain ⟨u, hu⟩ := Value.isInt_shape hk
    generalize he : es[i] = e0 at *
    obtain ⟨hh, x⟩ := e0
    dsimp only at hu hk ⊢
    subst hu
    have hes := erase_size hi
    refine wpAny_bind (wpAny_storeSet_of (s := { s with drawn := dr }) ho hd ?_ (by rw [hes, sizeLine_eq]; omega))
    refine wpAny_pure ?_
    have hg := get_putSet (es' := SetTable.eraseAt es i) (t' := t.popped i) ho hd
    refine h _ _ (fun j => (SetTable.eraseAt es i).toList.any fun e => (intKind prog w).is j e.2) k u dr (Heap.SameBut.update s.heap a _) hg ⟨hex, _, _, _, rfl, fun e he => hel e ((erase_mem hx).1 he), fun j => by rw [List.any_eq_true], by rw [hes, hn], by rw [hes]; exact popped_fits hf hi, led_any hled (popped_led t i)⟩ ?_ ?_ ?_
    · exact (hmem k).mpr ⟨_, hin, hk⟩
    · intro j hj
      obtain ⟨e, he, hp⟩ := List.any_eq_true.mp hj
      exact (hmem j).mpr ⟨e, (erase_mem hx).1 he, hp⟩
    · intro j hj
      obtain ⟨e, he, hp⟩ := (hmem j).mp hj
      rcases (erase_mem hx).2 he with e1 | e1
      · left
        rw [e1] at hp
        exact (intKind prog w).inj _ _ _ hp hk
      · right
        exact List.any_eq_true.mpr ⟨e, e1, hp⟩
  unfold setsByText
  refine wpAny_bind (wpAny_bind (wpAny_askSetting (wpAny_pure ?_)))
  dsimp only
  split
  · exact wpAny_bind (choose_w (by omega) fun i dr hi => tail i dr hi)
  · rename_i hc
    have hl : (!t.led && decide (es.size > 1)) = false := by
      rcases hled with h1 | h1
      · rw [h1]; rfl
      · exact absurd (show (_ || _) = true by
          have h2 : (model prog w).w.params.followText "set-order" = true := h1
          rw [h2]; rfl) hc
    refine wpAny_bind ?_
    show wpAny (model prog w) A (if (!t.led && decide (es.size > 1)) = true then unsupported "set:maker-not-led" else pure PUnit.unit) _ _ _
    rw [if_neg (by rw [hl]; simp)]
    refine wpAny_pure ?_
    exact tail i0 s.drawn hlt0
end
end
end PartCS3
section PartCS4
open PySem PySem.W PySem.Spec PySem.Calls PyProof.Rows
section
theorem noBool_set : typeLookup (.type "set") "__bool__" = pure none := by rw [typeLookup_type, builtinLookup_eq_fast]; kernel_rfl
section
variable {prog : Program} {w : World} {A : Around} {E : Value → Shared → Prop} {s : Shared} {a : Addr} {o : Obj} {S : Int → Bool} {n : Nat}
theorem SetL.type (ho : s.heap.get? a = some o) (hS : SetL prog w o S n) : s.TypeIs (.ref a) "set" := ⟨o, ho, hS.1.1⟩
theorem truthy_set_w {Q : Bool → Shared → Prop} (ho : s.heap.get? a = some o) (hS : SetL prog w o S n) (hb : n < 4096) (h : Q (decide (n ≠ 0)) { s with toks := s.toks + 1 + 1 }) :
    wpAny (model prog w) A (truthy (.ref a)) Q E s := by
  have hT := hS.type ho
  obtain ⟨hex, es, ep, t, hd, hel, hmem, hn, hf, hled⟩ := hS
  have hne : ((es.size : Int) != 0) = decide (n ≠ 0) := by rw [hn]; by_cases e : n = 0 <;> simp [e]
  have key : wpAny (model prog w) A (runValue (.builtin "len" ⟨[.ref a], []⟩)) (fun r s' => r = .int es.size (s.toks + 1) ∧ Q (decide (n ≠ 0)) s') E s := by
    refine wpAny_runValue (codeAny_builtin entry_len ?_)
    rw [Around.under_plainId plain_len _]
    exact wpAny_mono (wpAny_len_body_set (Q := fun r s' => r = .int es.size (s.toks + 1) ∧ Q (decide (n ≠ 0)) s') ho hex hd hf (by omega) ⟨rfl, h⟩)
      (fun fin s' h' => by obtain ⟨r, rfl, hq⟩ := h'; exact hq) fun _ _ e => e
  unfold truthy
  first
    | refine wpAny_bind (wpAny_callSpecial?_none (name := Str.ofString "__bool__") hT noBool_set ?_)
    | refine wpAny_bind (wpAny_pure (wpAny_bind (wpAny_callSpecial?_none (name := Str.ofString "__bool__") hT noBool_set ?_)))
  first
    | refine wpAny_bind (wpAny_specialOf (name := Str.ofString "__len__") hT F.slot_set_len.lookup ?_)
    | refine wpAny_bind (wpAny_pure (wpAny_bind (wpAny_specialOf (name := Str.ofString "__len__") hT F.slot_set_len.lookup ?_)))
  first
    | exact wpAny_bind (wpAny_mono key (fun r s' h' => by obtain ⟨rfl, hq⟩ := h'; exact wpAny_pure (hne ▸ hq)) fun _ _ e => e)
    | exact wpAny_bind (wpAny_pure (wpAny_bind (wpAny_mono key (fun r s' h' => by obtain ⟨rfl, hq⟩ := h'; exact wpAny_pure (hne ▸ hq)) fun _ _ e => e)))
theorem get_pop_w {pl : Sem Bool} {Q : Value × List Value → Shared → Prop} (ho : s.heap.get? a = some o) (hS : SetL prog w o S n) (h : Q (.builtin "set.pop", [.ref a]) s) :
    wpAny (model prog w) A (getMethod (.ref a) "pop" pl) Q E s :=
  getMethod_builtin (hS.type ho) F.plainAttrs_set F.slot_set_pop F.type_set_pop (fun b e => by injection e with e; subst e; exact ⟨o, ho, hS.1.2.1⟩) h
theorem get_add_w {pl : Sem Bool} {Q : Value × List Value → Shared → Prop} (ho : s.heap.get? a = some o) (hS : SetL prog w o S n) (h : Q (.builtin "set.add", [.ref a]) s) :
    wpAny (model prog w) A (getMethod (.ref a) "add" pl) Q E s :=
  getMethod_builtin (hS.type ho) F.plainAttrs_set F.slot_set_add F.type_set_add (fun b e => by injection e with e; subst e; exact ⟨o, ho, hS.1.2.1⟩) h
theorem call_pop_w {Q : Value → Shared → Prop} (ho : s.heap.get? a = some o) (hS : SetL prog w o S n) (hn0 : 0 < n) (hb : n < 4096)
    (h : ∀ h' o' S' k u dr, Heap.SameBut a s.heap h' → h'.get? a = some o' → SetL prog w o' S' (n - 1) → S k = true → (∀ j, S' j = true → S j = true) → (∀ j, S j = true → j = k ∨ S' j = true) → Q (.int k u) { s with heap := h', drawn := dr }) :
    wpAny (model prog w) A (call (.builtin "set.pop") [.ref a]) Q E s := by
  refine wpAny_call_entry F.slot_set_pop (hS.type ho) F.entry_set_pop ?_ (F.args_set_pop_1 _)
  unfold Builtin.«set.pop» Builtin.Frozenset.noArgs
  simp only [List.isEmpty_nil, bind_assoc]
  unfold Builtin.Frozenset.addrOf
  refine wpAny_bind (wpAny_pure ?_)
  try dsimp only
  refine wpAny_bind (setPop_w ho hS hn0 hb fun h' o' S' k u dr h1 h2 h3 h4 h5 h6 => ?_)
  dsimp only
  exact wpAny_pure ⟨_, rfl, h h' o' S' k u dr h1 h2 h3 h4 h5 h6⟩
theorem call_add_w {k : Int} {u : Tok} {Q : Value → Shared → Prop} (ho : s.heap.get? a = some o) (hS : SetL prog w o S n) (hb : n + 1 < 4096)
    (h : ∀ h' o', Heap.SameBut a s.heap h' → h'.get? a = some o' → SetL prog w o' (fun k' => S k' || decide (k' = k)) (if S k then n else n + 1) → Q .none { s with heap := h', toks := s.toks + 1 }) :
    wpAny (model prog w) A (call (.builtin "set.add") [.ref a, .int k u]) Q E s := by
  refine wpAny_call_entry F.slot_set_add (hS.type ho) F.entry_set_add ?_ (F.args_set_add_2 _ _)
  unfold Builtin.«set.add» Builtin.Frozenset.oneOther
  simp only [List.isEmpty_nil, bind_assoc]
  unfold Builtin.Frozenset.addrOf
  refine wpAny_bind (wpAny_pure ?_)
  try dsimp only
  refine wpAny_bind (wpAny_pure ?_)
  try dsimp only
  refine wpAny_bind (setAdd_w ho hS hb fun h' o' h1 h2 h3 => ?_)
  exact wpAny_pure ⟨_, rfl, h h' o' h1 h2 h3⟩
end
section
variable {prog : Program} {w : World} {A : Around} {E : Value → Shared → Prop} {s : Shared} {h₀ : Heap} {L sa : Addr} {m : Str → Option Value} {news : List (Addr × Obj)} {g : Obj → List (Addr × Obj)} {so : Obj} {S : Int → Bool} {n : Nat}
theorem new_K {Q : Value → Shared → Prop} (F : Fr h₀ L s.heap m) (N : News h₀ L s.heap news)
    (h : ∀ D h', Fr h₀ L h' m → News h₀ L h' ((D, freshSet w) :: news) → (∀ p ∈ news, p.1 < D) → SetL prog w (freshSet w) (fun _ => false) 0 → Q (.ref D) { s with heap := h' }) :
    wpAny (model prog w) A (call (.type "set") []) Q E s :=
  call_set_w (h _ _ (F.push _) (N.push F _) (fun p hp => Heap.lt_size (N p hp).1) setL_fresh)
theorem add_K {k : Int} {u : Tok} {Q : Value → Shared → Prop} (F : Fr h₀ L s.heap m) (N : News h₀ L s.heap news) (U : UpdF sa so news g) (hS : SetL prog w so S n) (hb : n + 1 < 4096)
    (h : ∀ h' so', Fr h₀ L h' m → News h₀ L h' (g so') → SetL prog w so' (fun k' => S k' || decide (k' = k)) (if S k then n else n + 1) → Q .none { s with heap := h', toks := s.toks + 1 }) :
    wpAny (model prog w) A (call (.builtin "set.add") [.ref sa, .int k u]) Q E s := by
  obtain ⟨pre, post, rfl, hg, ha, hb'⟩ := U.split
  have hm := N (sa, so) (List.mem_append_right _ (.head _))
  exact call_add_w hm.1 hS hb fun h' o' h1 h2 h3 => h h' o' (F.change h1 hm.2.1 hm.2.2) (hg o' ▸ N.setIn ha hb' h1 h2) h3
theorem pop_K {Q : Value → Shared → Prop} (F : Fr h₀ L s.heap m) (N : News h₀ L s.heap news) (U : UpdF sa so news g) (hS : SetL prog w so S n) (hn0 : 0 < n) (hb : n < 4096)
    (h : ∀ h' so' S' k u dr, Fr h₀ L h' m → News h₀ L h' (g so') → SetL prog w so' S' (n - 1) → S k = true → (∀ j, S' j = true → S j = true) → (∀ j, S j = true → j = k ∨ S' j = true) → Q (.int k u) { s with heap := h', drawn := dr }) :
    wpAny (model prog w) A (call (.builtin "set.pop") [.ref sa]) Q E s := by
  obtain ⟨pre, post, rfl, hg, ha, hb'⟩ := U.split
  have hm := N (sa, so) (List.mem_append_right _ (.head _))
  exact call_pop_w hm.1 hS hn0 hb fun h' o' S' k u dr h1 h2 h3 h4 h5 h6 => h h' o' S' k u dr (F.change h1 hm.2.1 hm.2.2) (hg o' ▸ N.setIn ha hb' h1 h2) h3 h4 h5 h6
theorem add_Kf {k : Int} {u : Tok} {Q : Bool → Shared → Prop} (F : Fr h₀ L s.heap m) (N : News h₀ L s.heap news) (U : UpdF sa so news g) (hS : SetL prog w so S n) (hb : n + 1 < 4096)
    (h : ∀ h' so', Fr h₀ L h' m → News h₀ L h' (g so') → SetL prog w so' (fun k' => S k' || decide (k' = k)) (if S k then n else n + 1) → Q (!S k) { s with heap := h', toks := s.toks + 1 }) :
    wpAny (model prog w) A (setAdd sa (.int k u)) Q E s := by
  obtain ⟨pre, post, rfl, hg, ha, hb'⟩ := U.split
  have hm := N (sa, so) (List.mem_append_right _ (.head _))
  exact setAdd_w hm.1 hS hb fun h' o' h1 h2 h3 => h h' o' (F.change h1 hm.2.1 hm.2.2) (hg o' ▸ N.setIn ha hb' h1 h2) h3
theorem disp_core {road : DisplayRoad} {b : Bool} {elts : List (Bool × Sem Value)} {ts : List (Sem Value)} {Q : Value → Shared → Prop} (hroad : (road == .constants) = false) (hs : elts.findIdx? (·.1) = none) (hlen : elts.length ≤ 30) (hm : elts.map (·.2) = ts)
    (h : wpAny (model prog w) A (evalAll ts) (fun vs s' => KdsFill (model prog w) A E (road == .unsure) s.heap.objs.size Q vs s') E { s with heap := s.heap.push (freshSet w) }) :
    wpAny (model prog w) A (setDisplay road b elts) Q E s := by
  have hn : (if elts.length > 30 then 0 else (elts.findIdx? (·.1)).getD elts.length) = elts.length := by rw [if_neg (by omega), hs]; rfl
  unfold setDisplay
  try dsimp only
  rw [if_neg (by rw [hroad]; exact Bool.false_ne_true)]
  refine wpAny_bind (newSet_w ?_)
  dsimp only
  rw [hn, List.take_length, List.drop_length, hm]
  refine wpAny_bind (wpAny_holding ?_)
  refine wpAny_bind (wpAny_mono h (fun vs s' h' => ?_) fun _ _ x => x)
  refine wpAny_bind (wpAny_holding ?_)
  refine wpAny_bind (wpAny_mono (kds_for (fun x P s hx => ?_) vs s' h') (fun _ s1 h1 => ?_) fun _ _ x => x)
  · refine wpAny_bind (wpAny_mono hx (fun _ s2 h2 => ?_) fun _ _ x => x)
    first | exact wpAny_pure ⟨rfl, h2⟩ | exact wpAny_bind (wpAny_pure (wpAny_pure ⟨rfl, h2⟩))
  · cases hu : (road == DisplayRoad.unsure) with
    | false =>
      rw [hu] at h1
      have h2 : Q (.ref s.heap.objs.size) s1 := by simpa [KdsFill] using h1
      rw [if_neg Bool.false_ne_true]
      refine wpAny_pure ?_
      rw [List.forIn_nil]
      exact wpAny_pure (wpAny_pure h2)
    | true =>
      rw [hu] at h1
      have h2 : wpAny (model prog w) A (setUnled s.heap.objs.size) (fun _ s' => Q (.ref s.heap.objs.size) s') E s1 := by simpa [KdsFill] using h1
      rw [if_pos rfl]
      refine wpAny_bind (wpAny_rule (wpAny_mono h2 (fun _ s3 h3 => ?_) fun _ _ x => x))
      rw [List.forIn_nil]
      exact wpAny_pure (wpAny_pure h3)
theorem disp_eval {K : Frag} {elts : List PySem.Expr} {k : Nat} {pos : Pos} {env : Env} {Q : Value → Shared → Prop} (F : Fr h₀ L s.heap m) (N : News h₀ L s.heap news) (X : K.In h₀) (hc : kdsCode K env.code = true)
    (hroad : (displayRoad k elts == .constants) = false) (hp : elts.all kdsPlain = true) (hlen : elts.length ≤ 30)
    (h : ∀ D h', Fr h₀ L h' m → News h₀ L h' ((D, freshSet w) :: news) → (∀ p ∈ news, p.1 < D) → SetL prog w (freshSet w) (fun _ => false) 0 →
      KdsAll (model prog w) A E env elts (fun vs s' => KdsFill (model prog w) A E (displayRoad k elts == .unsure) D Q vs s') { s with heap := h' }) :
    wpAny (model prog w) A (eval (.Set elts k pos) env) Q E s := by
  rw [arm_eval_Set]
  refine wpAny_bind (wpAny_standAt ?_)
  refine wpAny_bind (kds_main (X.keeps F.keep) hc fun b => ?_)
  rw [kds_star elts hp, List.map_map]
  refine disp_core (ts := (evalEach elts env).map fun t => do let v ← t; standAt pos; pure v) hroad ?_ ?_ ?_ ?_
  · refine List.findIdx?_eq_none_iff.mpr fun x hx => ?_
    obtain ⟨t, _, rfl⟩ := List.mem_map.mp hx
    rfl
  · rw [List.length_map, kds_len]; exact hlen
  · rw [List.map_map]; try rfl
  · exact kds_all pos elts _ _ (h _ _ (F.push _) (News.push F N _ rfl) (fun p hp => Heap.lt_size (N p hp).1) setL_fresh)
end
end
end PartCS4
section PartCS5
open PySem PySem.W PySem.Spec PySem.Calls PyProof.Rows
section
theorem own_si : Manifest.owners.lookup (String.ofList ['r', 'o', 't', 'a', 'r', 'e', 't', 'i', '_', 't', 'e', 's'].reverse) = some Manifest.sig_set_iterator := by kernel_rfl
theorem slot_si_next : Slot "set_iterator" "__next__" "set_iterator.__next__" :=
  .of (owner := "set_iterator") (n := "__next__") (by rw [typeLookup_type, builtinLookup_eq_fast]; kernel_rfl) (by decide +kernel) (by decide +kernel) (by decide +kernel)
    (by first | exact .inl (by decide +kernel) | exact .inr (by decide +kernel)) (by rw [isSubtype_type]; kernel_rfl)
theorem slot_si_iter : Slot "set_iterator" "__iter__" "set_iterator.__iter__" :=
  .of (owner := "set_iterator") (n := "__iter__") (by rw [typeLookup_type, builtinLookup_eq_fast]; kernel_rfl) (by decide +kernel) (by decide +kernel) (by decide +kernel)
    (by first | exact .inl (by decide +kernel) | exact .inr (by decide +kernel)) (by rw [isSubtype_type]; kernel_rfl)
theorem entry_si_next : entryFor table "set_iterator.__next__" = some Builtin.«set_iterator.__next__» := entryFor_of_tree (by kernel_rfl)
theorem entry_si_iter : entryFor table "set_iterator.__iter__" = some Builtin.«dict_keyiterator.__iter__» := entryFor_alias (id' := "dict_keyiterator.__iter__") (by kernel_rfl) rfl (by decide +kernel) (by kernel_rfl)
theorem entry_set_iter : entryFor table "set.__iter__" = some Builtin.«frozenset.__iter__» := entryFor_alias (id' := "frozenset.__iter__") (by kernel_rfl) rfl (by decide +kernel) (by kernel_rfl)
theorem args_si_next (a : Value) : argsOk "set_iterator.__next__" ⟨[a], []⟩ := by
  unfold argsOk; rw [signature?_of (id := "set_iterator.__next__") (n := ['_', '_', 't', 'x', 'e', 'n', '_', '_']) (o := ['r', 'o', 't', 'a', 'r', 'e', 't', 'i', '_', 't', 'e', 's']) (by kernel_rfl) own_si]; kernel_rfl
theorem args_si_iter (a : Value) : argsOk "set_iterator.__iter__" ⟨[a], []⟩ := by
  unfold argsOk; rw [signature?_of (id := "set_iterator.__iter__") (n := ['_', '_', 'r', 'e', 't', 'i', '_', '_']) (o := ['r', 'o', 't', 'a', 'r', 'e', 't', 'i', '_', 't', 'e', 's']) (by kernel_rfl) own_si]; kernel_rfl
end
end PartCS5
section PartCS6
open PySem PySem.W PySem.Spec PySem.Calls PyProof.Rows
section
noncomputable def needK (b1 b2 b3 : Bool) : List Int := (if b1 then [1] else []) ++ ((if b2 then [2] else []) ++ (if b3 then [3] else []))
noncomputable def needP (b1 b2 b3 : Bool) : Array Nat := ((if b1 then [1] else []) ++ ((if b2 then [2] else []) ++ (if b3 then [3] else []))).toArray
noncomputable def needT (b1 b2 b3 led : Bool) : SetTable := ⟨7, needP b1 b2 b3, #[], 0, led, 0, true⟩
noncomputable def needE (b1 b2 b3 : Bool) (u1 u2 u3 : Tok) : Array (Int × Value) := ((if b1 then [((1 : Int), Value.int 1 u1)] else []) ++ ((if b2 then [((2 : Int), Value.int 2 u2)] else []) ++ (if b3 then [((3 : Int), Value.int 3 u3)] else []))).toArray
noncomputable def NeedAt (w : World) (o : Obj) (b1 b2 b3 : Bool) : Prop := o.ExactSet ∧ ∃ u1 u2 u3 ep, o.data = .set (needE b1 b2 b3 u1 u2 u3) ep (needT b1 b2 b3 (!byTx w))
theorem need_fresh (w : World) : NeedAt w (freshSet w) false false false := ⟨⟨rfl, rfl, rfl⟩, 0, 0, 0, 0, rfl⟩
theorem need_fits (b1 b2 b3 led : Bool) (u1 u2 u3 : Tok) : (needT b1 b2 b3 led).fits (needE b1 b2 b3 u1 u2 u3).size = true := by
  cases b1 <;> cases b2 <;> cases b3 <;> cases led <;> rfl
theorem need_full (b1 b2 b3 led : Bool) : (needT b1 b2 b3 led).tooFull = false := by
  cases b1 <;> cases b2 <;> cases b3 <;> cases led <;> rfl
theorem need_elems {prog : Program} {w : World} (b1 b2 b3 : Bool) (u1 u2 u3 : Tok) : ElemsOf (intKind prog w) (needE b1 b2 b3 u1 u2 u3).toList := by
  intro e he
  have h1 : hashInt 1 = 1 := by decide
  have h2 : hashInt 2 = 2 := by decide
  have h3 : hashInt 3 = 3 := by decide
  simp only [needE, List.mem_append] at he
  rcases he with he | he | he
  · cases b1
    · cases he
    · rw [List.mem_singleton.mp (show e ∈ [((1 : Int), Value.int 1 u1)] from he)]; exact ⟨⟨1, intKind_is _ _ _ _, h1.symm⟩, rfl⟩
  · cases b2
    · cases he
    · rw [List.mem_singleton.mp (show e ∈ [((2 : Int), Value.int 2 u2)] from he)]; exact ⟨⟨2, intKind_is _ _ _ _, h2.symm⟩, rfl⟩
  · cases b3
    · cases he
    · rw [List.mem_singleton.mp (show e ∈ [((3 : Int), Value.int 3 u3)] from he)]; exact ⟨⟨3, intKind_is _ _ _ _, h3.symm⟩, rfl⟩
theorem need_lay1 (b2 b3 led : Bool) (u u1 u2 u3 : Tok) : layNew (needT false b2 b3 led) (needE false b2 b3 u1 u2 u3) 1 (.int 1 u) = (needE true b2 b3 u u2 u3, needT true b2 b3 led, false, false) := by
  cases b2 <;> cases b3 <;> cases led <;> rfl
theorem need_lay2 (b1 b3 led : Bool) (u u1 u2 u3 : Tok) : layNew (needT b1 false b3 led) (needE b1 false b3 u1 u2 u3) 2 (.int 2 u) = (needE b1 true b3 u1 u u3, needT b1 true b3 led, false, false) := by
  cases b1 <;> cases b3 <;> cases led <;> rfl
theorem need_lay3 (b1 b2 led : Bool) (u u1 u2 u3 : Tok) : layNew (needT b1 b2 false led) (needE b1 b2 false u1 u2 u3) 3 (.int 3 u) = (needE b1 b2 true u1 u2 u, needT b1 b2 true led, false, false) := by
  cases b1 <;> cases b2 <;> cases led <;> rfl
section
variable {prog : Program} {w : World} {A : Around} {E : Value → Shared → Prop} {s : Shared}
theorem setAdd_found {a : Addr} {o : Obj} {es : Array (Int × Value)} {ep j : Nat} {t : SetTable} {k : Int} {u : Tok} {Q : Bool → Shared → Prop} (ho : s.heap.get? a = some o) (hd : o.data = .set es ep t) (hel : ElemsOf (intKind prog w) es.toList) (hf : t.fits es.size = true) (hb : es.size < 4096)
    (hr : List.findIdx? (fun e => (intKind prog w).is k e.2) es.toList = some j) (h : Q false { s with toks := s.toks + 1 }) : wpAny (model prog w) A (setAdd a (.int k u)) Q E s := by
  have hkey : (intKind prog w).is k (.int k u) = true := intKind_is _ _ _ _
  have hb0 : es.size < scanBound := by unfold scanBound; omega
  unfold setAdd
  refine wpAny_holding (wpAny_bind ((intKind prog w).pyHash hkey ?_))
  unfold setAddHashed setAddHashedIn
  refine wpAny_holding (wpAny_bind (wpAny_setState_of (s := { s with toks := s.toks + 1 }) ho hd hf ?_))
  dsimp only
  rw [byScan_of rfl hb0 hel]
  simp only [↓reduceIte]
  unfold setAddByScan
  refine wpAny_bind (wpAny_bind (wpAny_rule (wpAny_bind (wpAny_setScan_of hkey ho hd hf hel ?_))))
  rw [hr]
  dsimp only
  exact wpAny_pure (wpAny_pure h)
theorem setAdd_new {a : Addr} {o : Obj} {es es1 : Array (Int × Value)} {ep : Nat} {t t1 : SetTable} {k : Int} {u : Tok} {Q : Bool → Shared → Prop} (ho : s.heap.get? a = some o) (hd : o.data = .set es ep t) (hel : ElemsOf (intKind prog w) es.toList) (hf : t.fits es.size = true) (hb : es.size < 4096)
    (hr : List.findIdx? (fun e => (intKind prog w).is k e.2) es.toList = none) (hl : layNew t es (hashInt k) (.int k u) = (es1, t1, false, false)) (hp : t1.plain = true) (hfull : t1.tooFull = false) (hz : es1.size ≤ 4096)
    (h : Q true { s with heap := s.heap.update a (Obj.putSet es1 t1), toks := s.toks + 1 }) : wpAny (model prog w) A (setAdd a (.int k u)) Q E s := by
  have hkey : (intKind prog w).is k (.int k u) = true := intKind_is _ _ _ _
  have hb0 : es.size < scanBound := by unfold scanBound; omega
  unfold setAdd
  refine wpAny_holding (wpAny_bind ((intKind prog w).pyHash hkey ?_))
  unfold setAddHashed setAddHashedIn
  refine wpAny_holding (wpAny_bind (wpAny_setState_of (s := { s with toks := s.toks + 1 }) ho hd hf ?_))
  dsimp only
  rw [byScan_of rfl hb0 hel]
  simp only [↓reduceIte]
  unfold setAddByScan
  refine wpAny_bind (wpAny_bind (wpAny_rule (wpAny_bind (wpAny_setScan_of hkey ho hd hf hel ?_))))
  rw [hr]
  dsimp only
  have hl' : layNew t es ((intKind prog w).hash k) (.int k u) = (es1, t1, false, false) := hl
  rw [hl']
  dsimp only
  refine wpAny_bind (wpAny_pure ?_)
  rw [if_pos hp]
  refine wpAny_bind ?_
  rw [hashByValue_scannable 8 rfl]
  refine wpAny_pure ?_
  dsimp only [plainKind]
  simp only [↓reduceIte]
  refine wpAny_bind (wpAny_storeSet_of ho hd ?_ (by rw [sizeLine_eq]; omega))
  rw [hfull]
  simp only [Bool.and_false, Bool.false_eq_true, ↓reduceIte]
  exact wpAny_pure (wpAny_pure h)
end
end
end PartCS6
section PartCS7
open PySem PySem.W PySem.Spec PySem.Calls PyProof.Rows
section
section
variable {prog : Program} {w : World} {A : Around} {E : Value → Shared → Prop} {s : Shared}
theorem need_size (b1 b2 b3 : Bool) (u1 u2 u3 : Tok) : (needE b1 b2 b3 u1 u2 u3).size ≤ 3 := by
  cases b1 <;> cases b2 <;> cases b3 <;> exact Nat.le_of_ble_eq_true rfl
theorem need_setAdd {a : Addr} {o : Obj} {b1 b2 b3 : Bool} {k : Int} {u : Tok} {Q : Bool → Shared → Prop} (ho : s.heap.get? a = some o) (hS : NeedAt w o b1 b2 b3) (hk : k = 1 ∨ k = 2 ∨ k = 3)
    (h : ∀ h' o' b, Heap.SameBut a s.heap h' → h'.get? a = some o' → NeedAt w o' (b1 || decide (k = 1)) (b2 || decide (k = 2)) (b3 || decide (k = 3)) → Q b { s with heap := h', toks := s.toks + 1 }) :
    wpAny (model prog w) A (setAdd a (.int k u)) Q E s := by
  obtain ⟨hex, u1, u2, u3, ep, hd⟩ := hS
  have hel := need_elems (prog := prog) (w := w) b1 b2 b3 u1 u2 u3
  have hf := need_fits b1 b2 b3 (!byTx w) u1 u2 u3
  have hz := need_size b1 b2 b3 u1 u2 u3
  have old : ∀ j, List.findIdx? (fun e => (intKind prog w).is k e.2) (needE b1 b2 b3 u1 u2 u3).toList = some j → NeedAt w o (b1 || decide (k = 1)) (b2 || decide (k = 2)) (b3 || decide (k = 3)) → wpAny (model prog w) A (setAdd a (.int k u)) Q E s := fun j hj hN =>
    setAdd_found ho hd hel hf (by omega) hj (h s.heap o false (Heap.SameBut.refl a s.heap) ho hN)
  have new : ∀ c1 c2 c3 v1 v2 v3, List.findIdx? (fun e => (intKind prog w).is k e.2) (needE b1 b2 b3 u1 u2 u3).toList = none → layNew (needT b1 b2 b3 (!byTx w)) (needE b1 b2 b3 u1 u2 u3) (hashInt k) (.int k u) = (needE c1 c2 c3 v1 v2 v3, needT c1 c2 c3 (!byTx w), false, false) →
      c1 = (b1 || decide (k = 1)) → c2 = (b2 || decide (k = 2)) → c3 = (b3 || decide (k = 3)) → wpAny (model prog w) A (setAdd a (.int k u)) Q E s := fun c1 c2 c3 v1 v2 v3 hj hl e1 e2 e3 => by
    have hz2 := need_size c1 c2 c3 v1 v2 v3
    refine setAdd_new ho hd hel hf (by omega) hj hl rfl (need_full _ _ _ _) (by omega) ?_
    have hg := get_putSet (es' := needE c1 c2 c3 v1 v2 v3) (t' := needT c1 c2 c3 (!byTx w)) ho hd
    refine h _ _ true (Heap.SameBut.update s.heap a _) hg ?_
    rw [← e1, ← e2, ← e3]
    exact ⟨hex, v1, v2, v3, _, rfl⟩
  rcases hk with rfl | rfl | rfl
  · cases b1 with
    | false => exact new true b2 b3 u u2 u3 (by cases b2 <;> cases b3 <;> rfl) (need_lay1 b2 b3 _ u u1 u2 u3) (by decide) (by simp) (by simp)
    | true => exact old 0 (by cases b2 <;> cases b3 <;> rfl) (by simpa using ⟨hex, u1, u2, u3, ep, hd⟩)
  · cases b2 with
    | false => exact new b1 true b3 u1 u u3 (by cases b1 <;> cases b3 <;> rfl) (need_lay2 b1 b3 _ u u1 u2 u3) (by simp) (by decide) (by simp)
    | true => exact old (if b1 then 1 else 0) (by cases b1 <;> cases b3 <;> rfl) (by simpa using ⟨hex, u1, u2, u3, ep, hd⟩)
  · cases b3 with
    | false => exact new b1 b2 true u1 u2 u (by cases b1 <;> cases b2 <;> rfl) (need_lay3 b1 b2 _ u u1 u2 u3) (by simp) (by simp) (by decide)
    | true => exact old ((if b1 then 1 else 0) + (if b2 then 1 else 0)) (by cases b1 <;> cases b2 <;> rfl) (by simpa using ⟨hex, u1, u2, u3, ep, hd⟩)
theorem need_call_add {a : Addr} {o : Obj} {b1 b2 b3 : Bool} {k : Int} {u : Tok} {Q : Value → Shared → Prop} (ho : s.heap.get? a = some o) (hS : NeedAt w o b1 b2 b3) (hk : k = 1 ∨ k = 2 ∨ k = 3)
    (h : ∀ h' o', Heap.SameBut a s.heap h' → h'.get? a = some o' → NeedAt w o' (b1 || decide (k = 1)) (b2 || decide (k = 2)) (b3 || decide (k = 3)) → Q .none { s with heap := h', toks := s.toks + 1 }) :
    wpAny (model prog w) A (call (.builtin "set.add") [.ref a, .int k u]) Q E s := by
  refine wpAny_call_entry F.slot_set_add ⟨o, ho, hS.1.1⟩ F.entry_set_add ?_ (F.args_set_add_2 _ _)
  unfold Builtin.«set.add» Builtin.Frozenset.oneOther
  simp only [List.isEmpty_nil, bind_assoc]
  unfold Builtin.Frozenset.addrOf
  refine wpAny_bind (wpAny_pure ?_)
  try dsimp only
  refine wpAny_bind (wpAny_pure ?_)
  try dsimp only
  refine wpAny_bind (need_setAdd ho hS hk fun h' o' b h1 h2 h3 => ?_)
  exact wpAny_pure ⟨_, rfl, h h' o' h1 h2 h3⟩
end
section
variable {prog : Program} {w : World} {A : Around} {E : Value → Shared → Prop} {s : Shared} {h₀ : Heap} {L sa : Addr} {m : Str → Option Value} {news : List (Addr × Obj)} {g : Obj → List (Addr × Obj)} {so : Obj}
theorem need_add_K {b1 b2 b3 : Bool} {k : Int} {u : Tok} {Q : Value → Shared → Prop} (F : Fr h₀ L s.heap m) (N : News h₀ L s.heap news) (U : UpdF sa so news g) (hS : NeedAt w so b1 b2 b3) (hk : k = 1 ∨ k = 2 ∨ k = 3)
    (h : ∀ h' so', Fr h₀ L h' m → News h₀ L h' (g so') → NeedAt w so' (b1 || decide (k = 1)) (b2 || decide (k = 2)) (b3 || decide (k = 3)) → Q .none { s with heap := h', toks := s.toks + 1 }) :
    wpAny (model prog w) A (call (.builtin "set.add") [.ref sa, .int k u]) Q E s := by
  obtain ⟨pre, post, rfl, hg, ha, hb'⟩ := U.split
  have hm := N (sa, so) (List.mem_append_right _ (.head _))
  exact need_call_add hm.1 hS hk fun h' o' h1 h2 h3 => h h' o' (F.change h1 hm.2.1 hm.2.2) (hg o' ▸ N.setIn ha hb' h1 h2) h3
theorem erase_perm {α : Type} : ∀ (l : List α) (i : Nat) (h : i < l.length), ([l[i]] ++ l.eraseIdx i).Perm l
  | a :: r, 0, _ => by simp
  | a :: r, i + 1, h => by
    have ih := erase_perm r i (by simpa using h)
    simp only [List.getElem_cons_succ, List.eraseIdx_cons_succ]
    exact (List.Perm.swap _ _ _).trans (ih.cons a)
theorem pick_perm {α : Type} (next : Nat → Nat) : ∀ (fuel k : Nat) (left : List α) (out : Array α), left.length ≤ fuel → (pickOrder.go next fuel k left out).toList.Perm (out.toList ++ left)
  | 0, k, left, out, h => by
    have : left = [] := List.length_eq_zero_iff.mp (by omega)
    subst this
    unfold pickOrder.go
    simp
  | fuel + 1, k, left, out, h => by
    unfold pickOrder.go
    cases left with
    | nil => simp
    | cons a r =>
      have hi : next k % (a :: r).length < (a :: r).length := Nat.mod_lt _ (by simp)
      rw [List.getElem?_eq_getElem hi]
      dsimp only
      refine (pick_perm next fuel (k + 1) _ _ (by rw [List.length_eraseIdx_of_lt hi]; simp at h ⊢; omega)).trans ?_
      rw [Array.toList_push, List.append_assoc]
      refine List.Perm.append_left _ ?_
      exact erase_perm _ _ hi
theorem pick_all {α : Type} (next : Nat → Nat) (xs : Array α) : (pickOrder next xs).toList.Perm xs.toList := by
  unfold pickOrder
  simpa using pick_perm next xs.size 0 xs.toList #[] (by simp)
end
end
end PartCS7
section PartCS8
open PySem PySem.W PySem.Spec PySem.Calls PyProof.Rows
section
noncomputable def IsSI (h : Heap) (it d : Addr) (i n ep slot : Nat) : Prop := ∃ o, h.get? it = some o ∧ o.cls = .type "set_iterator" ∧ o.data = .fields #[.int slot 0, .int i 0, .ref d, .int n 0, .int ep 0]
theorem IsSI.typeIs {s : Shared} {it d : Addr} {i n ep slot : Nat} (x : IsSI s.heap it d i n ep slot) : s.TypeIs (.ref it) "set_iterator" := let ⟨o, ho, hc, _⟩ := x; ⟨o, ho, hc⟩
noncomputable def needOrd (w : World) (d : Addr) (ep : Nat) (es : Array (Int × Value)) : Array (Int × Value) := if byTx w then pickOrder (w.params.setOrder d ep) es else es
noncomputable def needSlot (b1 b2 b3 : Bool) (i : Nat) : Nat := if i = 0 then 0 else (needP b1 b2 b3).getD (i - 1) 0 + 1
theorem need_below : ∀ (b1 b2 b3 : Bool) (i : Nat), i ≤ (needP b1 b2 b3).size → SetTable.below (needP b1 b2 b3) (needSlot b1 b2 b3 i) = i := by
  intro b1 b2 b3 i hi
  have h3 : (needP b1 b2 b3).size ≤ 3 := by cases b1 <;> cases b2 <;> cases b3 <;> decide
  have hi3 : i = 0 ∨ i = 1 ∨ i = 2 ∨ i = 3 := by omega
  rcases hi3 with rfl | rfl | rfl | rfl <;> cases b1 <;> cases b2 <;> cases b3 <;> first | decide | (exact absurd hi (by decide))
theorem needP_size (b1 b2 b3 : Bool) (u1 u2 u3 : Tok) : (needP b1 b2 b3).size = (needE b1 b2 b3 u1 u2 u3).size := by cases b1 <;> cases b2 <;> cases b3 <;> rfl
section
variable {prog : Program} {w : World} {A : Around} {E : Value → Shared → Prop} {s : Shared}
theorem setNext_need {d : Addr} {od : Obj} {b1 b2 b3 : Bool} {u1 u2 u3 : Tok} {ep slot i : Nat} {Q : Option (Value × Nat) → Shared → Prop} (ho : s.heap.get? d = some od)
    (hd : od.data = .set (needE b1 b2 b3 u1 u2 u3) ep (needT b1 b2 b3 (!byTx w))) (hi : i ≤ (needE b1 b2 b3 u1 u2 u3).size) (hs : byTx w = false → slot = needSlot b1 b2 b3 i)
    (h : ∀ slot', (byTx w = false → slot' = needSlot b1 b2 b3 (i + 1)) → Q (((needOrd w d ep (needE b1 b2 b3 u1 u2 u3))[i]?).map fun e => (e.2, slot')) s) :
    wpAny (model prog w) A (setNext d slot i ep) Q E s := by
  have hf := need_fits b1 b2 b3 (!byTx w) u1 u2 u3
  unfold setNext
  refine wpAny_bind (wpAny_setState_of ho hd hf ?_)
  dsimp only
  unfold setsByText
  refine wpAny_bind (wpAny_bind (wpAny_askSetting (wpAny_pure ?_)))
  cases hb : byTx w with
  | true =>
    have hb' : (model prog w).w.params.followText "set-order" = true := hb
    dsimp only
    rw [if_pos hb', if_neg (by simp)]
    unfold setWalk setsByText
    refine wpAny_bind (wpAny_bind (wpAny_setState_of ho hd hf ?_))
    dsimp only
    refine wpAny_bind (wpAny_bind (wpAny_askSetting (wpAny_pure ?_)))
    dsimp only
    rw [if_pos hb']
    refine wpAny_bind (wpAny_askSetting (wpAny_pure (wpAny_pure ?_)))
    have := h slot (fun e => by rw [hb] at e; cases e)
    unfold needOrd at this
    rw [if_pos hb] at this
    exact this
  | false =>
    have hb' : ¬ (model prog w).w.params.followText "set-order" = true := by rw [show (model prog w).w.params.followText "set-order" = false from hb]; simp
    dsimp only
    rw [if_neg hb']
    split
    · rename_i hc
      exact absurd (show false = true from hc) Bool.false_ne_true
    · refine wpAny_bind ?_
      show wpAny (model prog w) A (if (!(needT b1 b2 b3 (!false)).led && !(needE b1 b2 b3 u1 u2 u3).isEmpty) = true then unsupported "set:maker-not-led" else pure PUnit.unit) _ _ _
      have hl : (needT b1 b2 b3 (!false)).led = true := rfl
      rw [if_neg (by rw [hl]; simp)]
      refine wpAny_pure (wpAny_pure ?_)
      have hbl : SetTable.below (needT b1 b2 b3 (!false)).place slot = i := by
        rw [hs hb]
        exact need_below b1 b2 b3 i (by rw [needP_size _ _ _ u1 u2 u3]; exact hi)
      rw [hbl]
      have hps := needP_size b1 b2 b3 u1 u2 u3
      have hh := h (needSlot b1 b2 b3 (i + 1)) (fun _ => rfl)
      unfold needOrd at hh
      rw [if_neg (by rw [hb]; simp)] at hh
      rcases Nat.lt_or_ge i (needE b1 b2 b3 u1 u2 u3).size with hlt | hge
      · have hp : i < (needP b1 b2 b3).size := by omega
        rw [Array.getElem?_eq_getElem hlt] at hh ⊢
        rw [show (needT b1 b2 b3 (!false)).place = needP b1 b2 b3 from rfl, Array.getElem?_eq_getElem hp]
        dsimp only [Option.map] at hh ⊢
        have e : needSlot b1 b2 b3 (i + 1) = (needP b1 b2 b3)[i] + 1 := by
          unfold needSlot
          rw [if_neg (by omega), Nat.add_sub_cancel]
          simp [Array.getD, hp]
        rw [e] at hh
        exact hh
      · rw [Array.getElem?_eq_none hge] at hh ⊢
        exact hh
end
end
end PartCS8
section PartCS9
open PySem PySem.W PySem.Spec PySem.Calls PyProof.Rows
section
section
variable {prog : Program} {w : World} {A : Around} {E : Value → Shared → Prop} {s : Shared}
noncomputable def siObj (d : Addr) (i n ep slot : Nat) : Obj := { cls := .type "set_iterator", data := .fields #[.int slot 0, .int i 0, .ref d, .int n 0, .int ep 0] }
theorem pyIter_need {d : Addr} {od : Obj} {b1 b2 b3 : Bool} {u1 u2 u3 : Tok} {ep : Nat} {Q : Value → Shared → Prop} (ho : s.heap.get? d = some od) (hex : od.ExactSet)
    (hd : od.data = .set (needE b1 b2 b3 u1 u2 u3) ep (needT b1 b2 b3 (!byTx w))) (hQ : Q (.ref s.heap.objs.size) { s with heap := s.heap.push (siObj d 0 (needE b1 b2 b3 u1 u2 u3).size ep 0) }) :
    wpAny (model prog w) A (pyIter (.ref d)) Q E s := by
  have hf := need_fits b1 b2 b3 (!byTx w) u1 u2 u3
  have hT : s.TypeIs (.ref d) "set" := ⟨od, ho, hex.1⟩
  refine wpAny_pyIter_slot hT F.slot_set_iter (wpAny_call_entry F.slot_set_iter hT entry_set_iter ?_ (F.args_set_iter_1 _))
  unfold Builtin.«frozenset.__iter__» Builtin.Frozenset.slot0 slotArgs
  simp -iota only [List.isEmpty_nil, Bool.not_true, Bool.false_eq_true, ↓reduceIte, bind_assoc, List.length_nil, bne_self_eq_false]
  unfold Builtin.Frozenset.addrOf Builtin.Frozenset.sizeOf
  refine wpAny_bind (wpAny_pure ?_)
  try dsimp only
  refine wpAny_bind (wpAny_pure ?_)
  refine wpAny_bind (wpAny_bind (wpAny_setEntries_of ho hd hf (wpAny_pure ?_)))
  unfold setDrawn setsByText
  refine wpAny_bind (wpAny_bind (wpAny_setState_of ho hd hf ?_))
  try dsimp only
  refine wpAny_bind (wpAny_bind (wpAny_askSetting (wpAny_pure ?_)))
  refine wpAny_pure ?_
  split
  · rename_i hc
    have hc' := (Bool.and_eq_true _ _).mp hc
    exact absurd (show false = true from hc'.2) Bool.false_ne_true
  · refine wpAny_bind (wpAny_pure ?_)
    refine wpAny_bind (wpAny_setEpoch_of ho hd hf ?_)
    unfold newFields
    refine wpAny_bind (wpAny_newObj_type (wpAny_pure ⟨_, rfl, "set_iterator", _, ⟨_, Heap.get?_push_size _ rfl, rfl⟩, slot_si_next.lookup, ?_⟩))
    exact hQ
theorem pyNext_need {it d : Addr} {od : Obj} {b1 b2 b3 : Bool} {u1 u2 u3 : Tok} {ep slot i : Nat} {e : Int × Value} {Q : Option Value → Shared → Prop} (hit : IsSI s.heap it d i (needE b1 b2 b3 u1 u2 u3).size ep slot) (ho : s.heap.get? d = some od)
    (hd : od.data = .set (needE b1 b2 b3 u1 u2 u3) ep (needT b1 b2 b3 (!byTx w))) (hi : i < (needE b1 b2 b3 u1 u2 u3).size) (hs : byTx w = false → slot = needSlot b1 b2 b3 i) (he : (needOrd w d ep (needE b1 b2 b3 u1 u2 u3))[i]? = some e)
    (hQ : ∀ h' slot', (byTx w = false → slot' = needSlot b1 b2 b3 (i + 1)) → IsSI h' it d (i + 1) (needE b1 b2 b3 u1 u2 u3).size ep slot' → Heap.SameBut it s.heap h' → Q (some e.2) { s with heap := h' }) :
    wpAny (model prog w) A (pyNext (.ref it)) Q E s := by
  have hf := need_fits b1 b2 b3 (!byTx w) u1 u2 u3
  obtain ⟨o, hoi, hci, hdi⟩ := id hit
  unfold pyNext
  refine wpAny_bind (wpAny_attempt (wpAny_callSpecial?_slot (name := Str.ofString "__next__") hit.typeIs slot_si_next (wpAny_call_entry slot_si_next hit.typeIs entry_si_next ?_ (args_si_next _))))
  unfold Builtin.«set_iterator.__next__» slotArgs
  simp -iota only [List.isEmpty_nil, Bool.not_true, Bool.false_eq_true, ↓reduceIte, bind_assoc, List.length_nil, bne_self_eq_false]
  refine wpAny_bind (wpAny_pure ?_)
  try dsimp only
  refine wpAny_bind (wpAny_fieldsOf hoi hdi ?_)
  try dsimp only
  refine wpAny_bind (wpAny_setEntries_of ho hd hf ?_)
  rw [if_neg (by simp)]
  try dsimp only
  rw [Int.toNat_natCast, Int.toNat_natCast, Int.toNat_natCast]
  refine wpAny_bind (setNext_need ho hd (by omega) hs fun slot' hs' => ?_)
  rw [he]
  dsimp only [Option.map]
  refine wpAny_bind (wpAny_setField hoi hdi (by simp) ?_)
  have ho1 := Heap.get?_update_self (Obj.mapFields (·.setIfInBounds 0 (rawInt slot'))) hoi (Obj.isFreed_of_fields (Obj.data_mapFields hdi _))
  refine wpAny_bind (wpAny_setField ho1 (Obj.data_mapFields hdi _) (by simp) ?_)
  have ho2 := Heap.get?_update_self (Obj.mapFields (·.setIfInBounds 1 (rawInt ((i : Int) + 1)))) ho1 (Obj.isFreed_of_fields (Obj.data_mapFields (Obj.data_mapFields hdi _) _))
  refine wpAny_pure ⟨_, rfl, wpAny_pure (hQ _ slot' hs' ⟨_, ho2, (Obj.cls_mapFields ..).trans ((Obj.cls_mapFields ..).trans hci), ?_⟩ ((Heap.SameBut.update ..).trans (Heap.SameBut.update ..)))⟩
  rw [Obj.data_mapFields (Obj.data_mapFields hdi _)]
  simp [rawInt]
end
end
end PartCS9
section PartCS10
open PySem PySem.W PySem.Spec PySem.Calls PyProof.Rows
section
section
variable {prog : Program} {w : World} {A : Around} {E : Value → Shared → Prop} {s : Shared}
theorem needOrd_size (w : World) (d : Addr) (ep : Nat) (es : Array (Int × Value)) : (needOrd w d ep es).size = es.size := by
  unfold needOrd
  split
  · rw [← Array.length_toList, (pick_all _ _).length_eq, Array.length_toList]
  · rfl
theorem needOrd_perm (w : World) (d : Addr) (ep : Nat) (es : Array (Int × Value)) : (needOrd w d ep es).toList.Perm es.toList := by
  unfold needOrd
  split
  · exact pick_all _ _
  · exact .rfl
theorem pyNext_needEnd {it d : Addr} {od : Obj} {b1 b2 b3 : Bool} {u1 u2 u3 : Tok} {ep slot i : Nat} {Q : Option Value → Shared → Prop} (hh : A.handled = none) (hit : IsSI s.heap it d i (needE b1 b2 b3 u1 u2 u3).size ep slot) (ho : s.heap.get? d = some od)
    (hd : od.data = .set (needE b1 b2 b3 u1 u2 u3) ep (needT b1 b2 b3 (!byTx w))) (hi : i = (needE b1 b2 b3 u1 u2 u3).size) (hs : byTx w = false → slot = needSlot b1 b2 b3 i)
    (hQ : ∀ h', Heap.ExtBut it s.heap h' → Q none { s with heap := h' }) :
    wpAny (model prog w) A (pyNext (.ref it)) Q E s := by
  have hf := need_fits b1 b2 b3 (!byTx w) u1 u2 u3
  obtain ⟨o, hoi, hci, hdi⟩ := id hit
  unfold pyNext
  refine wpAny_bind (wpAny_attempt (wpAny_callSpecial?_slot (name := Str.ofString "__next__") hit.typeIs slot_si_next (wpAny_call_entry slot_si_next hit.typeIs entry_si_next ?_ (args_si_next _))))
  unfold Builtin.«set_iterator.__next__» slotArgs
  simp -iota only [List.isEmpty_nil, Bool.not_true, Bool.false_eq_true, ↓reduceIte, List.length_nil, bne_self_eq_false]
  refine wpAny_bind (wpAny_pure ?_)
  try dsimp only
  refine wpAny_bind (wpAny_fieldsOf hoi hdi ?_)
  try dsimp only
  refine wpAny_bind (wpAny_setEntries_of ho hd hf ?_)
  rw [if_neg (by simp)]
  try dsimp only
  rw [Int.toNat_natCast, Int.toNat_natCast, Int.toNat_natCast]
  refine wpAny_bind (setNext_need ho hd (by omega) hs fun slot' hs' => ?_)
  rw [Array.getElem?_eq_none (by rw [needOrd_size]; omega)]
  dsimp only [Option.map]
  refine wpAny_bind (wpAny_setField hoi hdi (by simp) ?_)
  show wpAny _ _ (newExc (.type "StopIteration") [] >>= _) _ _ _
  refine wpAny_bind ?_
  simp only [newExc, newTuple]
  refine wpAny_bind (wpAny_newObj_type ?_ (by size_fits))
  refine wpAny_bind (m := firstArgMember _ _) (wpAny_of_eq (a := Value.none) (by first | rfl | (simp only [firstArgMember]; rfl)) ?_)
  refine wpAny_newObj_type ?_ (by size_fits)
  unfold raiseNew
  refine wpAny_bind (wpAny_handled ?_)
  rw [show A.in1.handled = none from hh]
  refine wpAny_bind (wpAny_pure (wpAny_throw ?_))
  refine wpAny_bind (wpAny_isInstance (T := "StopIteration") (b := true) ⟨_, Heap.get?_push_size _ rfl, rfl⟩ isSubtype_stop ?_)
  exact wpAny_pure (hQ _ (((Heap.SameBut.update ..).extBut.push _).push _))
theorem IsSI.at {h h' : Heap} {it d : Addr} {i n ep slot : Nat} (x : IsSI h it d i n ep slot) (e : ∀ o, h.get? it = some o → h'.get? it = some o) : IsSI h' it d i n ep slot := let ⟨o, ho, r⟩ := x; ⟨o, e _ ho, r⟩
theorem walks_need (hh : A.handled = none) (I d : Addr) (hne : d ≠ I) {od : Obj} {b1 b2 b3 : Bool} {u1 u2 u3 : Tok} {ep : Nat} (hd : od.data = .set (needE b1 b2 b3 u1 u2 u3) ep (needT b1 b2 b3 (!byTx w))) :
    Walks prog w A I [I, d] [I] (needE b1 b2 b3 u1 u2 u3).size (fun i v => ((needOrd w d ep (needE b1 b2 b3 u1 u2 u3))[i]?).map (·.2) = some v)
      (fun i h => ∃ slot, (byTx w = false → slot = needSlot b1 b2 b3 i) ∧ IsSI h I d i (needE b1 b2 b3 u1 u2 u3).size ep slot ∧ h.get? d = some od) where
  sub := fun b hb => by simp at hb; simp [hb]
  frame := fun _ _ _ ⟨slot, h1, h2, h3⟩ hk => ⟨slot, h1, h2.at fun o e => hk I (by simp) o e, hk d (by simp) _ h3⟩
  item := fun i s Q E hi ⟨slot, h1, h2, h3⟩ hQ => by
    have hlt : i < (needOrd w d ep (needE b1 b2 b3 u1 u2 u3)).size := by rw [needOrd_size]; exact hi
    refine pyNext_need h2 h3 hd hi h1 (Array.getElem?_eq_getElem hlt) fun h' slot' hs' hit' hsb => ?_
    exact hQ _ h' s.toks (by rw [Array.getElem?_eq_getElem hlt]; rfl) ⟨slot', hs', hit', (hsb.2 d hne).trans h3⟩ fun b o hb e => (hsb.2 b fun q => hb (by simp [q])).trans e
  done := fun s Q E ⟨slot, h1, h2, h3⟩ hQ => pyNext_needEnd hh h2 h3 hd rfl h1 fun h' he' => hQ h' s.toks fun b o hb e => he' b o (fun q => hb (by simp [q])) e
  self := fun _ _ _ _ ⟨slot, h1, h2, h3⟩ hQ => by
    refine wpAny_pyIter_slot h2.typeIs slot_si_iter (wpAny_call_entry slot_si_iter h2.typeIs entry_si_iter ?_ (args_si_iter _))
    show wpAny _ _ (ret (.ref I)) _ _ _
    exact wpAny_pure ⟨_, rfl, "set_iterator", _, h2.typeIs, slot_si_next.lookup, hQ⟩
theorem hint_set {r : Addr} {Q : Bool → Shared → Prop} (hT : s.TypeIs (.ref r) "set") (h : Q false s) : wpAny (model prog w) A (Builtin.List.listLengthHint (.ref r)) Q E s := by
  unfold Builtin.List.listLengthHint
  refine wpAny_bind (wpAny_specialOf hT PySem.F.slot_set_len.lookup ?_)
  generalize hid : ("set.__len__" : String) = id0
  wp_delta
  rw [show splitId id0 = some ("set", "__len__") from by subst hid; decide +kernel]
  subst hid
  refine wpAny_bind (wpAny_isInstance (T := "set") (b := true) hT (by rw [isSubtype_type]; kernel_rfl) ?_)
  refine wpAny_ite_split (fun hab => absurd hab (by decide)) (fun _ => ?_)
  refine wpAny_ite_split (fun _ => ?_) (fun hab => absurd (by decide +kernel) hab)
  refine wpAny_bind (wpAny_typeOf hT ?_)
  exact wpAny_pure h
end
end
end PartCS10
section PartCS11
open PySem PySem.W PySem.Spec PySem.Calls PyProof.Rows
section
section
variable {prog : Program} {w : World} {A : Around} {E : Value → Shared → Prop} {s : Shared} {h₀ : Heap} {L sa : Addr} {m : Str → Option Value} {news : List (Addr × Obj)} {so : Obj}
theorem need_src {d : Addr} {od : Obj} {b1 b2 b3 : Bool} {u1 u2 u3 : Tok} {ep : Nat} (hex : od.ExactSet) (hd : od.data = .set (needE b1 b2 b3 u1 u2 u3) ep (needT b1 b2 b3 (!byTx w))) :
    KdlSrc prog w "set" d d (needE b1 b2 b3 u1 u2 u3).size (fun i v => ((needOrd w d ep (needE b1 b2 b3 u1 u2 u3))[i]?).map (·.2) = some v) (fun h => h.get? d = some od) where
  type := fun _ ho => ⟨od, ho, hex.1⟩
  there := fun _ ho => ⟨Heap.lt_size ho, Heap.lt_size ho⟩
  keep := fun _ _ ho hk => hk d (.inl rfl) _ ho
  notList := by decide
  notTuple := by decide
  hint := fun _ _ _ _ ho hq => hint_set ⟨od, ho, hex.1⟩ hq
  iter := fun _ s hh ho => ⟨_, _, (fun _ _ hq => pyIter_need ho hex hd hq), walks_need hh _ d (Nat.ne_of_lt (Heap.lt_size ho)) hd, ⟨0, fun _ => rfl, ⟨_, Heap.get?_push_size _ rfl, rfl, rfl⟩, Heap.get?_push_of_some _ ho⟩⟩
theorem ints_map : ∀ {l : List (Int × Value)} {ns : List Int}, l.map (·.1) = ns → (∀ e ∈ l, ∃ u, e.2 = .int e.1 u) → IntsAre (l.map (·.2)) ns
  | [], ns, e, _ => by subst e; exact .nil
  | (k, v) :: r, ns, e, h => by
    subst e
    obtain ⟨u, hu⟩ := h (k, v) (.head _)
    dsimp only at hu
    subst hu
    exact .cons k u (ints_map rfl fun e he => h e (.tail _ he))
theorem needE_ints (u1 u2 u3 : Tok) : ∀ e ∈ (needE true true true u1 u2 u3).toList, ∃ u, e.2 = .int e.1 u := by
  intro e he
  have h : e ∈ [((1 : Int), Value.int 1 u1), (2, .int 2 u2), (3, .int 3 u3)] := he
  simp only [List.mem_cons, List.not_mem_nil, or_false] at h
  rcases h with rfl | rfl | rfl
  · exact ⟨u1, rfl⟩
  · exact ⟨u2, rfl⟩
  · exact ⟨u3, rfl⟩
theorem sorted3 {ns : List Int} (h1 : ns.Perm [1, 2, 3]) (h2 : ns.Pairwise (· ≤ ·)) : ns = [1, 2, 3] :=
  List.Perm.eq_of_pairwise (le := (· ≤ ·)) (fun a b _ _ hab hba => Int.le_antisymm hab hba) h2 (by decide) h1
theorem sort_K {D : Addr} {vs : List Value} {ns : List Int} {Q : Value → Shared → Prop} (F : Fr h₀ L s.heap m) (N : News h₀ L s.heap ((D, W.listOf vs.toArray 0) :: news)) (hn : ∀ p ∈ news, p.1 ≠ D) (hI : IntsAre vs ns) (h64 : vs.length < 64)
    (h : ∀ h' vs' ns' c, Fr h₀ L h' m → News h₀ L h' ((D, W.listOf vs'.toArray c) :: news) → IntsAre vs' ns' → ns'.Perm ns → ns'.Pairwise (· ≤ ·) → Q .none { s with heap := h' }) :
    wpAny (model prog w) A (call (.builtin "list.sort") [.ref D]) Q E s := by
  have hm := N _ (List.Mem.head _)
  refine wpAny_call_entry slot_list_sort ⟨_, hm.1, rfl⟩ entry_list_sort ?_ (args_list_sort _)
  refine list_sort_tree (n := 0) hm.1 hI h64 fun out ns' a1 a2 a3 => ⟨_, rfl, ?_⟩
  obtain ⟨e, he⟩ := sortedHeap_at (out := out) hm.1
  have old : ∀ b o, b ≠ D → s.heap.get? b = some o → (sortedHeap s.heap D vs out).get? b = some o := fun b o hb e => (sortedHeap_old hb (Heap.lt_size e)).trans e
  refine h _ out.toList ns' e ⟨F.ns.at' fun o e => old _ _ (fun q => hm.2.1 q.symm) e, fun b o eb => old _ _ (fun q => ?_) (F.keep b o eb), F.above⟩ ?_ a1 a2 a3
  · have := hm.2.2
    rw [q] at eb
    rw [eb] at this
    cases this
  · intro p hp
    rcases List.mem_cons.mp hp with q | hp
    · rw [q]
      refine ⟨?_, hm.2⟩
      rw [Array.toArray_toList]
      exact he
    · exact ⟨old _ _ (hn p hp) (N p (.tail _ hp)).1, (N p (.tail _ hp)).2⟩
theorem sorted_need {Q : Value → Shared → Prop} (hh : A.handled = none) (F : Fr h₀ L s.heap m) (N : News h₀ L s.heap news) (hm : (sa, so) ∈ news) (hS : NeedAt w so true true true)
    (h : ∀ D h' tk u1 u2 u3 c, Fr h₀ L h' m → News h₀ L h' ((D, W.listOf #[.int 1 u1, .int 2 u2, .int 3 u3] c) :: news) → (∀ p ∈ news, p.1 < D) → Q (.ref D) { s with heap := h', toks := tk }) :
    wpAny (model prog w) A (call (.builtin "sorted") [.ref sa]) Q E s := by
  obtain ⟨hex, u1, u2, u3, ep, hd⟩ := hS
  refine kdu_sorted (need_src hex hd) hh F N (N _ hm).1 (by have := need_size true true true u1 u2 u3; rw [sizeLine_eq]; omega) fun D h' tk vs F' N' l1 hlen hvs => ?_
  have hsz : (needE true true true u1 u2 u3).size = 3 := rfl
  have hp := needOrd_perm w sa ep (needE true true true u1 u2 u3)
  have hos := needOrd_size w sa ep (needE true true true u1 u2 u3)
  generalize needOrd w sa ep (needE true true true u1 u2 u3) = od at hp hos hvs
  have hvl : vs = od.toList.map (·.2) := by
    refine List.ext_getElem? fun i => ?_
    rcases Nat.lt_or_ge i vs.length with hlt | hge
    · have := hvs i vs[i] (List.getElem?_eq_getElem hlt)
      rw [List.getElem?_eq_getElem hlt, List.getElem?_map, Array.getElem?_toList]
      exact this.symm
    · rw [List.getElem?_eq_none hge, List.getElem?_eq_none (by rw [List.length_map, Array.length_toList]; omega)]
  have hI : IntsAre vs (od.toList.map (·.1)) := by
    rw [hvl]
    exact ints_map rfl fun e he => needE_ints u1 u2 u3 e (hp.mem_iff.mp he)
  have hk : (od.toList.map (·.1)).Perm [1, 2, 3] := hp.map (·.1)
  refine sort_K F' N' (fun p hp => Nat.ne_of_lt (l1 p hp)) hI (by omega) fun h2 vs2 ns2 c F2 N2 hI2 hp2 hs2 => ?_
  have e3 := sorted3 (hp2.trans hk) hs2
  subst e3
  cases hI2 with | cons _ v1 h => cases h with | cons _ v2 h => cases h with | cons _ v3 h => cases h with | nil => exact h D h2 tk v1 v2 v3 c F2 N2 l1
end
end
end PartCS11
section PartCS12
open PySem PySem.W PySem.Spec PySem.Calls PyProof.Rows
section
noncomputable def WhNext (h₀ : Heap) (L : Addr) (s : Shared) (J : Nat → (Str → Option Value) → List (Addr × Obj) → Prop) (n : Nat) (s₃ : Shared) : Prop :=
  ∃ h' tk dr m₂ news₂ n', s₃ = { s with heap := h', toks := tk, drawn := dr } ∧ Fr h₀ L h' m₂ ∧ News h₀ L h' news₂ ∧ n' < n ∧ J n' m₂ news₂
noncomputable def WhPost (h₀ : Heap) (L : Addr) (s : Shared) (J : Nat → (Str → Option Value) → List (Addr × Obj) → Prop) (Q : Flow → Shared → Prop) (n : Nat) : Flow → Shared → Prop
  | .next, s₃ => WhNext h₀ L s J n s₃
  | .cont, s₃ => WhNext h₀ L s J n s₃
  | .brk, s₃ => Q .next s₃
  | .ret v, s₃ => Q (.ret v) s₃
section
variable {prog : Program} {w : World} {A : Around} {E : Value → Shared → Prop} {Q : Flow → Shared → Prop} {s : Shared} {env : Env} {h₀ : Heap} {L : Addr}
theorem While_dr {test : PySem.Expr} {body : List Stmt} {pos : Pos} {m : Str → Option Value} {news : List (Addr × Obj)} (J : Nat → (Str → Option Value) → List (Addr × Obj) → Prop) {n₀ : Nat}
    (F : Fr h₀ L s.heap m) (N : News h₀ L s.heap news) (hJ : J n₀ m news)
    (turn : ∀ n m₁ news₁ h₁ tk₁ dr₁, Fr h₀ L h₁ m₁ → News h₀ L h₁ news₁ → J n m₁ news₁ →
      wpAny (model prog w) A (isTrue test env (eval test env)) (fun b s₂ =>
        if b = true then wpAny (model prog w) A (execs body env) (fun f s₃ => Stop (WhPost h₀ L s J Q n f s₃)) E s₂ else Q .next s₂) E { s with heap := h₁, toks := tk₁, drawn := dr₁ })
    (hE : PassesOwn (model prog w) A env E := by passes_own) :
    wpAny (model prog w) A (exec (.While test body [] pos) env) Q E s := by
  refine wpAny_While (codeAny_whileLoop (fun n s' => ∃ h₁ tk₁ dr₁ m₁ news₁, s' = { s with heap := h₁, toks := tk₁, drawn := dr₁ } ∧ Fr h₀ L h₁ m₁ ∧ News h₀ L h₁ news₁ ∧ J n m₁ news₁) ?_ n₀ ⟨s.heap, s.toks, s.drawn, m, news, rfl, F, N, hJ⟩)
  rintro n s' ⟨h₁, tk₁, dr₁, m₁, news₁, rfl, F₁, N₁, J₁⟩
  refine wpAny_mono (turn n m₁ news₁ h₁ tk₁ dr₁ F₁ N₁ J₁) (fun b s₂ h₂ => ?_) hE
  cases b with
  | false =>
    simp only [Bool.false_eq_true, if_false] at h₂ ⊢
    exact wpAny_execs_nil h₂
  | true =>
    simp only [if_true] at h₂ ⊢
    refine wpAny_mono h₂ (fun f s₃ h₃ => ?_) hE
    have go : WhNext h₀ L s J n s₃ → ∃ n', n' < n ∧ ∃ h₁ tk₁ dr₁ m₁ news₁, s₃ = { s with heap := h₁, toks := tk₁, drawn := dr₁ } ∧ Fr h₀ L h₁ m₁ ∧ News h₀ L h₁ news₁ ∧ J n' m₁ news₁ := by
      rintro ⟨h', tk, dr, m₂, news₂, n', rfl, F₂, N₂, hn, J₂⟩
      exact ⟨n', hn, h', tk, dr, m₂, news₂, rfl, F₂, N₂, J₂⟩
    cases f with
    | next => exact go h₃
    | cont => exact go h₃
    | brk => exact h₃
    | ret v => exact h₃
end
end
end PartCS12
section PartCS13
open PySem PySem.W PySem.Spec PySem.Calls PyProof.Rows
section
noncomputable def un3 (b : Bool) : Nat := if b then 0 else 3
noncomputable def mu (S : Int → Bool) : Nat := un3 (S 2) + un3 (S 3) + un3 (S 4) + un3 (S 7)
noncomputable def PowInv (W S : Int → Bool) (b1 b2 b3 : Bool) : Prop :=
  (∀ k, W k = true → k = 1 ∨ k = 2 ∨ k = 3 ∨ k = 4 ∨ k = 7) ∧ (W 7 = true ∨ S 7 = true) ∧ (S 7 = true → b3 = true ∧ (W 3 = true ∨ S 3 = true) ∧ (W 4 = true ∨ S 4 = true)) ∧ (S 3 = true → b1 = true ∧ (W 2 = true ∨ S 2 = true)) ∧ (S 4 = true → b2 = true)
theorem pow_start : PowInv (fun k' => false || decide (k' = 7)) (fun _ => false) false false false :=
  ⟨fun k h => (by simp at h; omega), .inl rfl, fun h => (by cases h), fun h => (by cases h), fun h => (by cases h)⟩
theorem pow_end {W S : Int → Bool} {b1 b2 b3 : Bool} (h : PowInv W S b1 b2 b3) (hW : ∀ k, W k = false) : b1 = true ∧ b2 = true ∧ b3 = true := by
  obtain ⟨_, h7, h7', h3, h4⟩ := h
  have f : ∀ k, ¬ W k = true := fun k e => by rw [hW k] at e; cases e
  have s7 := h7.resolve_left (f 7)
  obtain ⟨c3, d3, d4⟩ := h7' s7
  have s3 := d3.resolve_left (f 3)
  have s4 := d4.resolve_left (f 4)
  exact ⟨(h3 s3).1, h4 s4, c3⟩
theorem pow_skip {W W' S : Int → Bool} {b1 b2 b3 : Bool} {k : Int} (h : PowInv W S b1 b2 b3) (h1 : ∀ j, W' j = true → W j = true) (h2 : ∀ j, W j = true → j = k ∨ W' j = true) (hk : S k = true ∨ k ≤ 1) : PowInv W' S b1 b2 b3 := by
  obtain ⟨h0, h7, h7', h3, h4⟩ := h
  have keep : ∀ j : Int, 1 < j → (W j = true ∨ S j = true) → (W' j = true ∨ S j = true) := fun j hj e => by
    rcases e with e | e
    · rcases h2 j e with q | q
      · subst q
        rcases hk with q | q
        · exact .inr q
        · omega
      · exact .inl q
    · exact .inr e
  exact ⟨fun j e => h0 j (h1 j e), keep 7 (by decide) h7, fun e => ⟨(h7' e).1, keep 3 (by decide) (h7' e).2.1, keep 4 (by decide) (h7' e).2.2⟩, fun e => ⟨(h3 e).1, keep 2 (by decide) (h3 e).2⟩, h4⟩
end
section
theorem pow_do {W W' S W2 S2 : Int → Bool} {b1 b2 b3 c1 c2 c3 : Bool} {k lo : Int} {od : Bool} (h : PowInv W S b1 b2 b3) (h1 : ∀ j, W' j = true → W j = true) (h2 : ∀ j, W j = true → j = k ∨ W' j = true)
    (hk : (k = 2 ∧ lo = 1 ∧ od = false ∧ c1 = true) ∨ (k = 3 ∧ lo = 1 ∧ od = true ∧ c1 = true) ∨ (k = 4 ∧ lo = 2 ∧ od = false ∧ c2 = true) ∨ (k = 7 ∧ lo = 3 ∧ od = true ∧ c3 = true))
    (hS : ∀ j, S2 j = true ↔ S j = true ∨ j = k) (hW : ∀ j, W2 j = true ↔ W' j = true ∨ j = lo ∨ (od = true ∧ j = lo + 1)) (e1 : b1 = true → c1 = true) (e2 : b2 = true → c2 = true) (e3 : b3 = true → c3 = true) : PowInv W2 S2 c1 c2 c3 := by
  obtain ⟨h0, h7, h7', h3, h4⟩ := h
  have keep : ∀ j : Int, (W j = true ∨ S j = true) → (W2 j = true ∨ S2 j = true) := fun j e => by
    rcases e with e | e
    · rcases h2 j e with q | q
      · exact .inr ((hS j).mpr (.inr q))
      · exact .inl ((hW j).mpr (.inl q))
    · exact .inr ((hS j).mpr (.inl e))
  have wlo : W2 lo = true := (hW lo).mpr (.inr (.inl rfl))
  have wlo1 : od = true → W2 (lo + 1) = true := fun q => (hW _).mpr (.inr (.inr ⟨q, rfl⟩))
  refine ⟨fun j e => ?_, keep 7 h7, fun e => ?_, fun e => ?_, fun e => ?_⟩
  · rcases (hW j).mp e with q | q | ⟨q, r⟩
    · exact h0 j (h1 j q)
    · rcases hk with ⟨_, hl, _⟩ | ⟨_, hl, _⟩ | ⟨_, hl, _⟩ | ⟨_, hl, _⟩ <;> omega
    · rcases hk with ⟨_, hl, _⟩ | ⟨_, hl, _⟩ | ⟨_, hl, ho, _⟩ | ⟨_, hl, _⟩ <;> first | omega | (rw [ho] at q; cases q)
  · rcases (hS 7).mp e with q | q
    · exact ⟨e3 (h7' q).1, keep 3 (h7' q).2.1, keep 4 (h7' q).2.2⟩
    · rcases hk with ⟨hk, _⟩ | ⟨hk, _⟩ | ⟨hk, _⟩ | ⟨_, hl, ho, hc⟩
      · omega
      · omega
      · omega
      · subst hl
        exact ⟨hc, .inl wlo, .inl (wlo1 ho)⟩
  · rcases (hS 3).mp e with q | q
    · exact ⟨e1 (h3 q).1, keep 2 (h3 q).2⟩
    · rcases hk with ⟨hk, _⟩ | ⟨_, hl, ho, hc⟩ | ⟨hk, _⟩ | ⟨hk, _⟩
      · omega
      · subst hl
        exact ⟨hc, .inl (wlo1 ho)⟩
      · omega
      · omega
  · rcases (hS 4).mp e with q | q
    · exact e2 (h4 q)
    · rcases hk with ⟨hk, _⟩ | ⟨hk, _⟩ | ⟨_, _, _, hc⟩ | ⟨hk, _⟩
      · omega
      · omega
      · exact hc
      · omega
theorem SetL.empty {prog : Program} {w : World} {o : Obj} {S : Int → Bool} (h : SetL prog w o S 0) : ∀ k, S k = false := by
  obtain ⟨_, es, _, _, _, _, hmem, hn, _⟩ := h
  intro k
  cases e : S k with
  | false => rfl
  | true =>
    obtain ⟨x, hx, _⟩ := (hmem k).mp e
    have : es.toList = [] := List.length_eq_zero_iff.mp (by rw [Array.length_toList]; exact hn)
    rw [this] at hx
    cases hx
end
end PartCS13
section PartCS14
open PySem PySem.W PySem.Spec PySem.Calls PyProof.Rows
section
section
variable {prog : Program} {w : World} {A : Around} {E : Value → Shared → Prop} {s : Shared} {h₀ : Heap} {L a : Addr} {news : List (Addr × Obj)} {o : Obj} {S : Int → Bool} {n : Nat}
theorem truthy_K {Q : Bool → Shared → Prop} (N : News h₀ L s.heap news) (hm : (a, o) ∈ news) (hS : SetL prog w o S n) (hb : n < 4096) (h : Q (decide (n ≠ 0)) { s with toks := s.toks + 1 + 1 }) : wpAny (model prog w) A (truthy (.ref a)) Q E s :=
  truthy_set_w (N _ hm).1 hS hb h
theorem getpop_K {pl : Sem Bool} {Q : Value × List Value → Shared → Prop} (N : News h₀ L s.heap news) (hm : (a, o) ∈ news) (hS : SetL prog w o S n) (h : Q (.builtin "set.pop", [.ref a]) s) : wpAny (model prog w) A (getMethod (.ref a) "pop" pl) Q E s :=
  get_pop_w (N _ hm).1 hS h
theorem getadd_K {pl : Sem Bool} {Q : Value × List Value → Shared → Prop} (N : News h₀ L s.heap news) (hm : (a, o) ∈ news) (hS : SetL prog w o S n) (h : Q (.builtin "set.add", [.ref a]) s) : wpAny (model prog w) A (getMethod (.ref a) "add" pl) Q E s :=
  get_add_w (N _ hm).1 hS h
theorem getneed_K {b1 b2 b3 : Bool} {pl : Sem Bool} {Q : Value × List Value → Shared → Prop} (N : News h₀ L s.heap news) (hm : (a, o) ∈ news) (hS : NeedAt w o b1 b2 b3) (h : Q (.builtin "set.add", [.ref a]) s) : wpAny (model prog w) A (getMethod (.ref a) "add" pl) Q E s :=
  getMethod_builtin ⟨o, (N _ hm).1, hS.1.1⟩ F.plainAttrs_set F.slot_set_add F.type_set_add (fun b e => by injection e with e; subst e; exact ⟨o, (N _ hm).1, hS.1.2.1⟩) h
theorem in_K {k : Int} {u : Tok} {Q : Value → Shared → Prop} (N : News h₀ L s.heap news) (hm : (a, o) ∈ news) (hS : SetL prog w o S n) (hb : n < 4096) (h : Q (.bool (S k)) { s with toks := s.toks + 1 }) : wpAny (model prog w) A (compareOp .In (.int k u) (.ref a)) Q E s :=
  wpAny_inSet_of (knd := intKind prog w) (intKind_is _ _ _ _) rfl (hS.objOf.setOf (N _ hm).1 (by unfold scanBound; omega)) h
theorem truthyN_K {b1 b2 b3 : Bool} {Q : Bool → Shared → Prop} (N : News h₀ L s.heap news) (hm : (a, o) ∈ news) (hS : NeedAt w o b1 b2 b3) (h : Q (b1 || b2 || b3) { s with toks := s.toks + 1 + 1 }) : wpAny (model prog w) A (truthy (.ref a)) Q E s := by
  obtain ⟨hex, u1, u2, u3, ep, hd⟩ := hS
  refine truthy_set_w (S := fun j => (needE b1 b2 b3 u1 u2 u3).toList.any fun e => (intKind prog w).is j e.2) (n := (needE b1 b2 b3 u1 u2 u3).size) (N _ hm).1 ⟨hex, _, _, _, hd, need_elems _ _ _ _ _ _, fun j => by rw [List.any_eq_true], rfl, need_fits _ _ _ _ _ _ _, ?_⟩ (by have := need_size b1 b2 b3 u1 u2 u3; omega) ?_
  · show (!byTx w) = true ∨ _
    cases byTx w <;> simp
  · have e : decide ((needE b1 b2 b3 u1 u2 u3).size ≠ 0) = (b1 || b2 || b3) := by cases b1 <;> cases b2 <;> cases b3 <;> rfl
    rw [e]
    exact h
end
end
end PartCS14
section PartCS15
open PySem PySem.W PySem.Spec PySem.Calls PyProof.Rows
section
noncomputable abbrev Pgm := PySem.Challenge.rw_sh0036_01.row.prog
theorem pow_mem {W S : Int → Bool} {b1 b2 b3 : Bool} {k : Int} (h : PowInv W S b1 b2 b3) (hk : W k = true) : k = 1 ∨ k = 2 ∨ k = 3 ∨ k = 4 ∨ k = 7 := h.1 k hk
noncomputable def PowJ (w : World) (aw an as : Addr) (x : Int) (news : List (Addr × Obj)) (n : Nat) (m : Str → Option Value) (led : List (Addr × Obj)) : Prop :=
  ∃ (oW oS oN : Obj) (W S : Int → Bool) (nW nS : Nat) (b1 b2 b3 : Bool) (t2 t3 : Tok), led = (aw, oW) :: (an, oN) :: (as, oS) :: news ∧ SetL Pgm w oW W nW ∧ SetL Pgm w oS S nS ∧ NeedAt w oN b1 b2 b3 ∧ PowInv W S b1 b2 b3 ∧
    n = mu S + nW ∧ n ≤ 13 ∧ 3 * nS + mu S ≤ 12 ∧ m "ws" = some (.ref aw) ∧ m "need" = some (.ref an) ∧ m "seen" = some (.ref as) ∧ m "base" = some (.int x t2) ∧ m "more_than" = some (.int 1 t3) ∧ m "show" = some (.bool false)
section
variable {h₀ : Heap} {L : Addr} {s s₃ : Shared} {J : Nat → (Str → Option Value) → List (Addr × Obj) → Prop} {Q : Flow → Shared → Prop} {n : Nat} {h' : Heap} {tk : Nat} {dr : Drawn} {m₂ : Str → Option Value} {news₂ : List (Addr × Obj)}
theorem wh_next (e : s₃ = { s with heap := h', toks := tk, drawn := dr }) (F : Fr h₀ L h' m₂) (N : News h₀ L h' news₂) (j : ∃ n', n' < n ∧ J n' m₂ news₂) : Stop (WhPost h₀ L s J Q n .next s₃) :=
  let ⟨n', hl, j⟩ := j; ⟨h', tk, dr, m₂, news₂, n', e, F, N, hl, j⟩
theorem wh_cont (e : s₃ = { s with heap := h', toks := tk, drawn := dr }) (F : Fr h₀ L h' m₂) (N : News h₀ L h' news₂) (j : ∃ n', n' < n ∧ J n' m₂ news₂) : Stop (WhPost h₀ L s J Q n .cont s₃) :=
  let ⟨n', hl, j⟩ := j; ⟨h', tk, dr, m₂, news₂, n', e, F, N, hl, j⟩
end
section
variable {w : World} {aw an as : Addr} {x : Int} {news : List (Addr × Obj)} {oW oS oN : Obj} {W W' S : Int → Bool} {nW nS n : Nat} {b1 b2 b3 : Bool} {t2 t3 : Tok} {m : Str → Option Value} {k lo : Int}
theorem powJ_skip (hP : PowInv W S b1 b2 b3) (h1 : ∀ j, W' j = true → W j = true) (h2 : ∀ j, W j = true → j = k ∨ W' j = true) (hk : S k = true ∨ k ≤ 1) (h0 : nW ≠ 0) (hn : n = mu S + nW) (hn13 : n ≤ 13) (hnS : 3 * nS + mu S ≤ 12)
    (sW : SetL Pgm w oW W' (nW - 1)) (sS : SetL Pgm w oS S nS) (sN : NeedAt w oN b1 b2 b3)
    (e1 : m "ws" = some (.ref aw)) (e2 : m "need" = some (.ref an)) (e3 : m "seen" = some (.ref as)) (e4 : m "base" = some (.int x t2)) (e5 : m "more_than" = some (.int 1 t3)) (e6 : m "show" = some (.bool false)) :
    ∃ n', n' < n ∧ PowJ w aw an as x news n' m ((aw, oW) :: (an, oN) :: (as, oS) :: news) :=
  ⟨mu S + (nW - 1), by omega, _, _, _, _, _, _, _, _, _, _, _, _, rfl, sW, sS, sN, pow_skip hP h1 h2 hk, rfl, by omega, hnS, e1, e2, e3, e4, e5, e6⟩
theorem mu_down (hk : k = 2 ∨ k = 3 ∨ k = 4 ∨ k = 7) (h : S k = false) : mu (fun j => S j || decide (j = k)) + 3 = mu S := by
  rcases hk with rfl | rfl | rfl | rfl <;> unfold mu <;> simp [un3, h] <;> omega
theorem powJ_even (hP : PowInv W S b1 b2 b3) (h1 : ∀ j, W' j = true → W j = true) (h2 : ∀ j, W j = true → j = k ∨ W' j = true) (hk : (k = 2 ∧ lo = 1) ∨ (k = 4 ∧ lo = 2)) (hSk : S k = false) (h0 : nW ≠ 0) (hn : n = mu S + nW) (hn13 : n ≤ 13) (hnS : 3 * nS + mu S ≤ 12)
    (sW : SetL Pgm w oW (fun j => W' j || decide (j = lo)) (if W' lo = true then nW - 1 else nW - 1 + 1)) (sS : SetL Pgm w oS (fun j => S j || decide (j = k)) (if S k = true then nS else nS + 1)) (sN : NeedAt w oN (b1 || decide (lo = 1)) (b2 || decide (lo = 2)) (b3 || decide (lo = 3)))
    (e1 : m "ws" = some (.ref aw)) (e2 : m "need" = some (.ref an)) (e3 : m "seen" = some (.ref as)) (e4 : m "base" = some (.int x t2)) (e5 : m "more_than" = some (.int 1 t3)) (e6 : m "show" = some (.bool false)) :
    ∃ n', n' < n ∧ PowJ w aw an as x news n' m ((aw, oW) :: (an, oN) :: (as, oS) :: news) := by
  have hm := mu_down (S := S) (k := k) (by omega) hSk
  rw [hSk] at sS
  simp only [Bool.false_eq_true, if_false] at sS
  generalize hW2 : (if W' lo = true then nW - 1 else nW - 1 + 1) = nW2 at sW
  have hle : nW2 ≤ nW := by rw [← hW2]; split <;> omega
  refine ⟨mu (fun j => S j || decide (j = k)) + nW2, by omega, _, _, _, _, _, _, _, _, _, _, _, _, rfl, sW, sS, sN, ?_, rfl, by omega, by omega, e1, e2, e3, e4, e5, e6⟩
  refine pow_do (k := k) (lo := lo) (od := false) hP h1 h2 ?_ (fun j => by simp) (fun j => by simp) (fun h => by rw [h]; rfl) (fun h => by rw [h]; rfl) (fun h => by rw [h]; rfl)
  rcases hk with ⟨rfl, rfl⟩ | ⟨rfl, rfl⟩
  · exact .inl ⟨rfl, rfl, rfl, by simp⟩
  · exact .inr (.inr (.inl ⟨rfl, rfl, rfl, by simp⟩))
theorem powJ_odd (hP : PowInv W S b1 b2 b3) (h1 : ∀ j, W' j = true → W j = true) (h2 : ∀ j, W j = true → j = k ∨ W' j = true) (hk : (k = 3 ∧ lo = 1) ∨ (k = 7 ∧ lo = 3)) (hSk : S k = false) (h0 : nW ≠ 0) (hn : n = mu S + nW) (hn13 : n ≤ 13) (hnS : 3 * nS + mu S ≤ 12) {z : Nat} (hz : z ≤ nW - 1 + 1 + 1)
    (sW : SetL Pgm w oW (fun j => W' j || decide (j = lo) || decide (j = lo + 1)) z) (sS : SetL Pgm w oS (fun j => S j || decide (j = k)) (if S k = true then nS else nS + 1)) (sN : NeedAt w oN (b1 || decide (lo = 1)) (b2 || decide (lo = 2)) (b3 || decide (lo = 3)))
    (e1 : m "ws" = some (.ref aw)) (e2 : m "need" = some (.ref an)) (e3 : m "seen" = some (.ref as)) (e4 : m "base" = some (.int x t2)) (e5 : m "more_than" = some (.int 1 t3)) (e6 : m "show" = some (.bool false)) :
    ∃ n', n' < n ∧ PowJ w aw an as x news n' m ((aw, oW) :: (an, oN) :: (as, oS) :: news) := by
  have hm := mu_down (S := S) (k := k) (by omega) hSk
  rw [hSk] at sS
  simp only [Bool.false_eq_true, if_false] at sS
  refine ⟨mu (fun j => S j || decide (j = k)) + z, by omega, _, _, _, _, _, _, _, _, _, _, _, _, rfl, sW, sS, sN, ?_, rfl, by omega, by omega, e1, e2, e3, e4, e5, e6⟩
  refine pow_do (k := k) (lo := lo) (od := true) hP h1 h2 ?_ (fun j => by simp) (fun j => by simp [or_assoc]) (fun h => by rw [h]; rfl) (fun h => by rw [h]; rfl) (fun h => by rw [h]; rfl)
  rcases hk with ⟨rfl, rfl⟩ | ⟨rfl, rfl⟩
  · exact .inr (.inl ⟨rfl, rfl, rfl, by simp⟩)
  · exact .inr (.inr (.inr ⟨rfl, rfl, rfl, by simp⟩))
end
end
end PartCS15
section PartCS16
open PySem PySem.W PySem.Spec PySem.Calls PyProof.Rows
section
noncomputable def LiIs (o : Obj) (l : Addr) (i : Nat) : Prop := o.cls = .type "list_iterator" ∧ o.data = .fields #[.ref l, .int i 0]
section
variable {prog : Program} {w : World} {A : Around} {E : Value → Shared → Prop} {s : Shared} {h₀ : Heap} {L l it : Addr} {m : Str → Option Value} {news : List (Addr × Obj)} {g : Obj → List (Addr × Obj)} {io : Obj} {vs : List Value} {x : Value} {i : Nat}
theorem iter_K {Q : Value → Shared → Prop} (F : Fr h₀ L s.heap m) (N : News h₀ L s.heap news) (hl : s.heap.IsList l vs.toArray)
    (h : ∀ (I : Addr) h' oI, Fr h₀ L h' m → News h₀ L h' ((I, oI) :: news) → (∀ p ∈ news, p.1 < I) → LiIs oI l 0 → Q (.ref I) { s with heap := h' }) :
    wpAny (model prog w) A (call (.builtin "iter") [.ref l]) Q E s := by
  refine call_function_entry (by decide +kernel) (by decide +kernel) kdk_entry_iter (kdk_args_iter _) ?_
  unfold Builtin.«iter»
  refine wpAny_bind (m := someArgs "iter" 1 2 _) (wpAny_of_eq (a := [Value.ref l]) (by first | rfl | kernel_rfl!) ?_)
  show wpAny _ _ (pyIter (.ref l) >>= _) _ _ _
  refine wpAny_bind (wpAny_pyIter_list hl ?_)
  exact wpAny_pure ⟨_, rfl, h _ _ _ (F.push _) (News.push F N _ rfl) (fun q hq => Heap.lt_size (N q hq).1) ⟨rfl, rfl⟩⟩
theorem li_special {Q : Option Value → Shared → Prop} {items : Array Value} (hit : s.heap.IsListIter it l i) (hl : s.heap.IsList l items) (hx : items[i]? = some x)
    (hQ : ∀ h', h'.IsListIter it l (i + 1) → Heap.SameBut it s.heap h' → Q (some x) { s with heap := h' }) :
    wpAny (model prog w) A (callSpecial? (.ref it) (Str.ofString "__next__")) Q E s := by
  obtain ⟨o, ho, hc, hd⟩ := id hit
  obtain ⟨ol, hol, _, nl, hdl⟩ := hl
  refine wpAny_callSpecial?_slot (name := Str.ofString "__next__") hit.typeIs slot_listiter_next
    (wpAny_call_entry slot_listiter_next hit.typeIs entry_listiter_next ?_ (args_listiter_next _))
  show wpAny _ _ (field (.ref it) 0 >>= _) _ _ s
  refine wpAny_bind (wpAny_field ho hd (x := .ref l) rfl ?_)
  show wpAny _ _ (if (Value.ref l == Value.none) = true then _ else _) _ _ s
  rw [if_neg (show ¬ ((Value.ref l == Value.none) = true) from Bool.false_ne_true)]
  show wpAny _ _ (field (.ref it) 1 >>= _) _ _ s
  refine wpAny_bind (wpAny_field ho hd (x := .int i 0) rfl ?_)
  show wpAny _ _ (seqItems? (.ref l) >>= _) _ _ s
  refine wpAny_bind (wpAny_seqItems hol hdl ?_)
  simp only [Int.toNat_natCast, hx]
  refine wpAny_bind (wpAny_setField ho hd (by simp) (wpAny_pure ⟨x, rfl, hQ _ ?_ (Heap.SameBut.update ..)⟩))
  exact ⟨_, Heap.get?_update_self _ ho (Obj.isFreed_of_fields (Obj.data_mapFields hd _)), (Obj.cls_mapFields ..).trans hc, by
    rw [Obj.data_mapFields hd]; simp [rawInt]⟩
theorem next_K {Q : Value → Shared → Prop} (F : Fr h₀ L s.heap m) (N : News h₀ L s.heap news) (U : UpdF it io news g) (hi : LiIs io l i) (hl : s.heap.IsList l vs.toArray) (hx : vs[i]? = some x)
    (h : ∀ h' o', Fr h₀ L h' m → News h₀ L h' (g o') → LiIs o' l (i + 1) → Q x { s with heap := h' }) :
    wpAny (model prog w) A (call (.builtin "next") [.ref it]) Q E s := by
  obtain ⟨pre, post, hL, hg, a, b⟩ := U.split
  have hmem : (it, io) ∈ news := by rw [hL]; exact List.mem_append_right _ (.head _)
  have hm := N (it, io) hmem
  have hit : s.heap.IsListIter it l i := ⟨io, hm.1, hi.1, hi.2⟩
  refine call_function_entry (by decide +kernel) (by decide +kernel) kdk_entry_next (kdk_args_next _) ?_
  unfold Builtin.«next»
  refine wpAny_bind (m := someArgs "next" 1 2 _) (wpAny_of_eq (a := [Value.ref it]) (by first | rfl | kernel_rfl!) ?_)
  dsimp only
  refine wpAny_bind (wpAny_specialOf (name := Str.ofString "__next__") hit.typeIs slot_listiter_next.lookup ?_)
  refine wpAny_ite_split (fun hab => absurd hab (by decide)) (fun _ => ?_)
  refine wpAny_bind (li_special hit hl (by simpa using hx) fun h' hit' hs => ?_)
  obtain ⟨o', ho', hc', hd'⟩ := hit'
  exact wpAny_pure ⟨_, rfl, h h' o' (F.change hs hm.2.1 hm.2.2) (hg o' ▸ (show News h₀ L s.heap (pre ++ (it, io) :: post) from hL ▸ N).setIn a b hs ho') ⟨hc', hd'⟩⟩
end
section
variable {prog : Program} {w : World} {A : Around} {E : Value → Shared → Prop} {s : Shared} {env : Env} {h₀ : Heap} {xn : Str} {body : List Stmt} {Q : Flow → Shared → Prop} {m : Str → Option Value} {news : List (Addr × Obj)}
noncomputable def ForNextI (h₀ : Heap) (L : Addr) (s : Shared) (I : Addr) (oI : Obj) (ol : Addr × Obj) (J : (Str → Option Value) → List (Addr × Obj) → Prop) (s' : Shared) : Prop :=
  ∃ h' tk' m₂ news₂, s' = { s with heap := h', toks := tk' } ∧ Fr h₀ L h' m₂ ∧ News h₀ L h' ((I, oI) :: news₂) ∧ (∀ p ∈ news₂, @Ne Nat p.1 I) ∧ ol ∈ news₂ ∧ J m₂ news₂
noncomputable def ForPostI (h₀ : Heap) (L : Addr) (s : Shared) (I : Addr) (oI : Obj) (ol : Addr × Obj) (J : (Str → Option Value) → List (Addr × Obj) → Prop) (Q : Flow → Shared → Prop) : Flow → Shared → Prop
  | .ret v, s' => Q (.ret v) s'
  | .brk, s' => Q .next s'
  | .cont, s' => ForNextI h₀ L s I oI ol J s'
  | .next, s' => ForNextI h₀ L s I oI ol J s'
theorem Walks.listFrom {prog : Program} {w : World} {A : Around} (hh : A.handled = none) (I ax : Addr) (hne : ax ≠ I) (items : Array Value) (k n : Nat) (hn : k + n = items.size) :
    Walks prog w A I [I, ax] [I] n (fun i v => items[k + i]? = some v) (fun i h => h.IsListIter I ax (k + i) ∧ h.IsList ax items) where
  sub := fun b hb => by simp at hb; simp [hb]
  frame := fun _ _ _ st hk => ⟨st.1.at fun o e => hk I (by simp) o e, st.2.at fun o e => hk ax (by simp) o e⟩
  item := fun i s Q E hi st hQ => (Walks.list hh I ax hne items).item (k + i) s Q E (by omega) st hQ
  done := fun s Q E st hQ => (Walks.list hh I ax hne items).done s Q E (hn ▸ st) hQ
  self := fun i s Q E st hQ => (Walks.list hh I ax hne items).self (k + i) s Q E st hQ
theorem for_iter {I l : Addr} {oI : Obj} {items : List Value} {c k n : Nat} (J : Nat → (Str → Option Value) → List (Addr × Obj) → Prop)
    (hh : A.handled = none) (F : Fr h₀ env.locals s.heap m) (N : News h₀ env.locals s.heap ((I, oI) :: news)) (hl : (l, W.listOf items.toArray c) ∈ news) (hi : LiIs oI l k) (hoff : ∀ p ∈ news, @Ne Nat p.1 I) (hn : k + n = items.length) (h0 : J 0 m news)
    (step : ∀ i v m₁ news₁ h tk oI, i < n → items[k + i]? = some v → J i m₁ news₁ → (l, W.listOf items.toArray c) ∈ news₁ → (∀ p ∈ news₁, @Ne Nat p.1 I) → Fr h₀ env.locals h (fun y => if y = xn then some v else m₁ y) → News h₀ env.locals h ((I, oI) :: news₁) →
      wpAny (model prog w) A (execs body env) (fun f s' => Stop (ForPostI h₀ env.locals s I oI (l, W.listOf items.toArray c) (J (i + 1)) Q f s')) E { s with heap := h, toks := tk })
    (fin : ∀ h' tk m' news', Fr h₀ env.locals h' m' → News h₀ env.locals h' news' → J n m' news' → Q .next { s with heap := h', toks := tk }) :
    wpAny (model prog w) A (pyIter (.ref I)) (fun it s₂ => LoopAtV prog w A h₀ env xn body Q E it s₂) E s := by
  have zI := N _ (.head _)
  have zl := N _ (.tail _ hl)
  have hne : l ≠ I := hoff _ hl
  have hit : s.heap.IsListIter I l k := ⟨oI, zI.1, hi.1, hi.2⟩
  have hls : s.heap.IsList l items.toArray := ⟨_, zl.1, rfl, _, rfl⟩
  refine wpAny_pyIter_listiter hit ?_
  have hW := Walks.listFrom (prog := prog) (w := w) hh I l hne items.toArray k n (by simpa using hn)
  refine ⟨I, [I, l], [I], n, _, _, m, news, fun i m₁ news₁ => (l, W.listOf items.toArray c) ∈ news₁ ∧ J i m₁ news₁, rfl, hW, ?_, ?_, ?_, ⟨hit, hls⟩, F, fun p hp => N p (.tail _ hp), ⟨hl, h0⟩, ?_, fun h' tk m' news' F' N' _ hJ => fin h' tk m' news' F' N' hJ.2⟩
  · intro hm
    rcases List.mem_cons.mp hm with e | hm
    · exact zI.2.1 e.symm
    · exact zl.2.1 (List.mem_singleton.mp hm).symm
  · intro b hb
    rw [List.mem_singleton.mp hb]
    exact zI.2.2
  · intro p hp h
    exact hoff p hp (List.mem_singleton.mp h)
  rintro i v m₁ news₁ s₁ own ⟨h, tk, rfl⟩ hi hP ⟨hJl, hJ⟩ hoff' hsub hown hall hst₁ F₁ N₁
  obtain ⟨⟨oI, hoI, _⟩, _⟩ := id hst₁
  have hmI : (I, oI) ∈ own := hall I (.head _) zI.2.2 oI hoI
  have hone : ∀ p ∈ own, p = (I, oI) ∨ p = (l, W.listOf items.toArray c) := fun p hp => by
    have e2 := hown p hp
    rcases List.mem_cons.mp (hsub p hp) with e1 | e1
    · rw [e1] at e2
      have e3 : some oI = some p.2 := hoI.symm.trans e2
      exact .inl (Prod.ext e1 (Option.some.inj e3).symm)
    · replace e1 := List.mem_singleton.mp e1
      have e4 := (N₁ _ (List.mem_append_right _ hJl)).1
      rw [e1] at e2
      have e3 := e4.symm.trans e2
      exact .inr (Prod.ext e1 (Option.some.inj e3).symm)
  have N₂ : News h₀ env.locals h ((I, oI) :: news₁) := fun p hp => by
    rcases List.mem_cons.mp hp with e | hp
    · rw [e]; exact N₁ _ (List.mem_append_left _ hmI)
    · exact N₁ _ (List.mem_append_right _ hp)
  have back : ∀ {s' : Shared}, ForNextI h₀ env.locals s I oI (l, W.listOf items.toArray c) (J (i + 1)) s' → LoopStepU h₀ env.locals [I] own (fun m₁ news₁ => (l, W.listOf items.toArray c) ∈ news₁ ∧ J (i + 1) m₁ news₁) { s with heap := h, toks := tk } .next s' := by
    rintro s' ⟨h', tk', m₂, news₂, rfl, F₂, N₃, ho, hl₂, j⟩
    refine ⟨rfl, h', tk', m₂, news₂, rfl, F₂, fun p hp => ?_, fun p hp hq => ho p hp (List.mem_singleton.mp hq), hl₂, j⟩
    rcases List.mem_append.mp hp with hp | hp
    · rcases hone p hp with e | e
      · rw [e]; exact N₃ _ (.head _)
      · rw [e]; exact N₃ _ (.tail _ hl₂)
    · exact N₃ _ (.tail _ hp)
  refine wpAny_mono (step i v m₁ news₁ h tk oI hi (by simpa using hP) hJ hJl (fun p hp e => hoff' p hp (List.mem_singleton.mpr e)) F₁ N₂) (fun f s' hs => ?_) fun _ _ e => e
  cases f with
  | ret v => exact hs
  | brk => exact hs
  | cont => exact back hs
  | next => exact back hs
end
end
end PartCS16
section PartCS17
open PySem PySem.W PySem.Spec PySem.Calls PyProof.Rows
section
noncomputable def powKv (x : Int) (ta tb tc : Tok) : Nat → List (Int × Value)
  | 0 => [(1, .int x ta)]
  | 1 => [(1, .int x ta), (2, .int (x * x) tb)]
  | _ => [(1, .int x ta), (2, .int (x * x) tb), (3, .int (x * x * x) tc)]
noncomputable def PowL (w : World) (x : Int) (d : Addr) (rest : List (Addr × Obj)) (i : Nat) (m : Str → Option Value) (led : List (Addr × Obj)) : Prop :=
  ∃ oD ta tb tc tx, led = (d, oD) :: rest ∧ oD.IsDictOf (intKind Pgm w) (powKv x ta tb tc i) ∧ m "d" = some (.ref d) ∧ m "base" = some (.int x tx) ∧ m "show" = some (.bool false)
theorem forI_next {h₀ : Heap} {L : Addr} {s s' : Shared} {I : Addr} {oI : Obj} {ol : Addr × Obj} {J : (Str → Option Value) → List (Addr × Obj) → Prop} {Q : Flow → Shared → Prop} {h' : Heap} {tk : Nat} {m₂ : Str → Option Value} {news₂ : List (Addr × Obj)}
    (e : s' = { s with heap := h', toks := tk }) (F : Fr h₀ L h' m₂) (N : News h₀ L h' ((I, oI) :: news₂)) (ho : ∀ p ∈ news₂, @Ne Nat p.1 I) (hl : ol ∈ news₂) (j : J m₂ news₂) : Stop (ForPostI h₀ L s I oI ol J Q .next s') :=
  ⟨h', tk, m₂, news₂, e, F, N, ho, hl, j⟩
end
end PartCS17
section PartCWdef
open PySem
section
noncomputable def pw (x : Int) : Nat → Int
  | 0 => 1
  | 1 => x
  | 2 => x * x
  | _ => x * x * x
noncomputable def dgt (x : Int) (i j : Nat) : Int := pw x i / 65536 ^ j % 65536
noncomputable def frontL (x : Int) (bp : List UInt64) (i : Nat) : List UInt64 := (List.range (i + 1)).map fun j => Float64.mul (Float64.ofInt (dgt x i j)) (bp.getD j 0)
noncomputable def behindL (x : Int) (bp : List UInt64) (i : Nat) : List UInt64 := (List.range (i + 1)).map fun j => Float64.mul (Float64.ofInt (dgt x i j)) (bp.getD (3 - i + j) 0)
noncomputable def WeighOK (x : Int) (bp bl br : List UInt64) : Prop := ∀ i : Nat, i < 4 → (Float64.cmp (Float64.mul (Float64.ofInt (32 ^ (0 + (i : Int)).toNat)) (bl.getD i 0)) (PySem.Flt.sumOf (frontL x bp i)) == some Ordering.eq) = true ∧
  (Float64.cmp (Float64.mul (Float64.ofInt (32 ^ (0 + (i : Int)).toNat)) (br.getD (3 - i) 0)) (PySem.Flt.sumOf (behindL x bp i)) == some Ordering.eq) = true
end
end PartCWdef
section PartPL1
section
namespace Dya
open PySem PySem.Float64
theorem rep_V (N j : Nat) (hN : N < 2 ^ 53) (hj : j ≤ 1074) : ∃ t, t < infMag ∧ V t = N * 2 ^ j := by
  by_cases h0 : N = 0
  · subst h0
    exact ⟨0, by decide, by rw [V_zero]; simp⟩
  have hl := Nat.log2_self_le h0
  have hu := @Nat.lt_log2_self N
  have hl52 : N.log2 ≤ 52 := by
    have : 2 ^ N.log2 < 2 ^ 53 := Nat.lt_of_le_of_lt hl hN
    have := (Nat.pow_lt_pow_iff_right (a := 2) (by decide)).mp this
    omega
  generalize hL : N.log2 = l at *
  have key : ∀ c, c ≤ j → c ≤ 52 - l → (c = 52 - l ∨ c = j) → ∃ t, t < infMag ∧ V t = N * 2 ^ j := by
    intro c h1 h2 h3
    have hq : N * 2 ^ c < 2 ^ 53 := by
      calc N * 2 ^ c < 2 ^ (l + 1) * 2 ^ c := Nat.mul_lt_mul_of_pos_right hu (Nat.two_pow_pos _)
        _ = 2 ^ (l + 1 + c) := (Nat.pow_add ..).symm
        _ ≤ 2 ^ 53 := Nat.pow_le_pow_right (by decide) (by omega)
    have hV := V_at (k := j - c) (q := N * 2 ^ c) (by omega) (by
      rcases h3 with h | h
      · left
        calc 2 ^ 52 = 2 ^ (l + c) := by congr 1; omega
          _ = 2 ^ l * 2 ^ c := Nat.pow_add ..
          _ ≤ N * 2 ^ c := Nat.mul_le_mul_right _ hl
      · right; omega)
    refine ⟨_, ?_, hV.trans ?_⟩
    · have hi : infMag = 2047 * 2 ^ 52 := rfl
      have : (j - c) * 2 ^ 52 ≤ 1074 * 2 ^ 52 := Nat.mul_le_mul_right _ (by omega)
      omega
    · rw [Nat.mul_assoc, ← Nat.pow_add]
      congr 2
      omega
  by_cases h : j ≤ 52 - l
  · exact key j (Nat.le_refl _) h (.inr rfl)
  · exact key (52 - l) (by omega) (Nat.le_refl _) (.inl rfl)
theorem exact_of {r : UInt64} {neg : Bool} {W D N j : Nat} (R : Right r neg W D) (hD : 0 < D) (hN : N < 2 ^ 53) (hj : j ≤ 1074) (hW : W = D * (N * 2 ^ j)) :
    (∃ a m e, decode r = .fin a m e) ∧ val r = sgn neg (N * 2 ^ j) := by
  obtain ⟨t0, h0, hV⟩ := rep_V N j hN hj
  obtain ⟨t, rfl, ht, hinf, hn⟩ := R
  have hlt : t < infMag := by
    rcases Nat.lt_or_eq_of_le ht with h | h
    · exact h
    · exfalso
      have h1 := hinf.mp h
      rw [hW] at h1
      have e : 2 * (D * (N * 2 ^ j)) = D * (2 * (N * 2 ^ j)) := by ac_rfl
      rw [e] at h1
      have h2 := Nat.le_of_mul_le_mul_left h1 hD
      have h3 : N * 2 ^ j ≤ 2 ^ 53 * 2 ^ 1074 := Nat.mul_le_mul (by omega) (Nat.pow_le_pow_right (by decide) hj)
      have h4 : 2 * (2 ^ 53 * 2 ^ 1074) < (2 ^ 54 - 1) * 2 ^ 2045 := by decide +kernel
      exact absurd (Nat.le_trans h2 (Nat.mul_le_mul_left 2 h3)) (Nat.not_le.mpr h4)
  have h1 := (hn hlt t0).1
  rw [hV, ← hW] at h1
  have h2 : dist W W = 0 := by unfold dist; omega
  rw [h2] at h1
  have h3 : W = D * V t := by unfold dist at h1; omega
  rw [hW] at h3
  have h4 : V t = N * 2 ^ j := (Nat.eq_of_mul_eq_mul_left hD h3).symm
  obtain ⟨m, e, hd, hv⟩ := decode_pack neg hlt
  refine ⟨⟨_, _, _, hd⟩, ?_⟩
  rw [val_pack neg hlt, h4]
noncomputable def Dy (k : Nat) (n : Int) (x : UInt64) : Prop := (∃ a m e, decode x = .fin a m e) ∧ val x = n * 2 ^ (1074 - k) ∧ k ≤ 1074
theorem sgn_of (z : Int) : sgn (decide (z < 0)) z.natAbs = z := by
  unfold sgn
  by_cases h : z < 0
  · simp [h]; omega
  · simp [h]; omega
theorem abs_pow (z : Int) (j : Nat) : (z * 2 ^ j).natAbs = z.natAbs * 2 ^ j := by
  rw [Int.natAbs_mul, Int.natAbs_pow]; rfl
theorem sgn_pow (a : Bool) (m j : Nat) : sgn a (m * 2 ^ j) = sgn a m * 2 ^ j := by
  rw [sgn_mul]; simp
theorem neg_pow_iff (z : Int) (j : Nat) : (z * 2 ^ j < 0) ↔ z < 0 := by
  have hp : (0 : Int) < 2 ^ j := Int.pow_pos (by decide)
  constructor
  · intro h
    by_cases q : z < 0
    · exact q
    · exact absurd (Int.mul_nonneg (Int.not_lt.mp q) (Int.le_of_lt hp)) (Int.not_le.mpr h)
  · intro h
    exact Int.mul_neg_of_neg_of_pos h hp
theorem sum_exact {z : Int} {r : UInt64} {k : Nat} (hk : k ≤ 1074) (hz : z.natAbs < 2 ^ 53) {b : Bool}
    (h : (z * 2 ^ (1074 - k) = 0 → r = zero b) ∧ (z * 2 ^ (1074 - k) ≠ 0 → Right r (decide (z * 2 ^ (1074 - k) < 0)) (z * 2 ^ (1074 - k)).natAbs 1)) : Dy k z r := by
  by_cases h0 : z * 2 ^ (1074 - k) = 0
  · have e := h.1 h0
    subst e
    obtain ⟨m, e, hd, _⟩ := decode_pack b (t := 0) (by decide)
    have hv := val_pack b (t := 0) (by decide)
    refine ⟨⟨_, _, _, hd⟩, ?_, hk⟩
    show val (pack b 0) = _
    rw [hv, h0, V_zero]
    cases b <;> rfl
  · have R := h.2 h0
    obtain ⟨hf, hv⟩ := exact_of (N := z.natAbs) (j := 1074 - k) R (by decide) hz (by omega) (by rw [abs_pow]; simp)
    refine ⟨hf, ?_, hk⟩
    rw [hv, sgn_pow]
    have e : decide (z * 2 ^ (1074 - k) < 0) = decide (z < 0) := by simp [neg_pow_iff]
    rw [e, sgn_of]
theorem dy_add {k : Nat} {a b : Int} {x y : UInt64} (hx : Dy k a x) (hy : Dy k b y) (h : (a + b).natAbs < 2 ^ 53) : Dy k (a + b) (add x y) := by
  obtain ⟨⟨sa, ma, ea, dx⟩, vx, hk⟩ := hx
  obtain ⟨⟨sb, mb, eb, dy⟩, vy, _⟩ := hy
  have R := add_right dx dy
  rw [vx, vy, ← Int.add_mul] at R
  exact sum_exact hk h R
theorem dy_sub {k : Nat} {a b : Int} {x y : UInt64} (hx : Dy k a x) (hy : Dy k b y) (h : (a - b).natAbs < 2 ^ 53) : Dy k (a - b) (sub x y) := by
  obtain ⟨⟨sa, ma, ea, dx⟩, vx, hk⟩ := hx
  obtain ⟨⟨sb, mb, eb, dy⟩, vy, _⟩ := hy
  have R := sub_right dx dy
  rw [vx, vy, ← Int.sub_mul] at R
  exact sum_exact hk h R
theorem sgn_prod (a b : Bool) (m n : Nat) : sgn (a != b) (m * n) = sgn a m * sgn b n := by
  unfold sgn; cases a <;> cases b <;> simp [Int.neg_mul, Int.mul_neg]
theorem dy_mul {k j : Nat} {a b : Int} {x y : UInt64} (hx : Dy k a x) (hy : Dy j b y) (hkj : k + j ≤ 1074) (h : (a * b).natAbs < 2 ^ 53) : Dy (k + j) (a * b) (mul x y) := by
  obtain ⟨⟨sa, ma, ea, dx⟩, vx, hk⟩ := hx
  obtain ⟨⟨sb, mb, eb, dy⟩, vy, hj⟩ := hy
  have R := mul_right dx dy
  have nx : (val x).natAbs = a.natAbs * 2 ^ (1074 - k) := by rw [vx, abs_pow]
  have ny : (val y).natAbs = b.natAbs * 2 ^ (1074 - j) := by rw [vy, abs_pow]
  obtain ⟨hf, hv⟩ := exact_of (N := (a * b).natAbs) (j := 1074 - (k + j)) R (Nat.two_pow_pos _) h (by omega) (by
    rw [nx, ny, Int.natAbs_mul]
    have e1 : (2 : Nat) ^ (1074 - k) * 2 ^ (1074 - j) = 2 ^ 1074 * 2 ^ (1074 - (k + j)) := by
      rw [← Nat.pow_add, ← Nat.pow_add]; congr 1; omega
    calc a.natAbs * 2 ^ (1074 - k) * (b.natAbs * 2 ^ (1074 - j)) = a.natAbs * b.natAbs * (2 ^ (1074 - k) * 2 ^ (1074 - j)) := by ac_rfl
      _ = 2 ^ 1074 * (a.natAbs * b.natAbs * 2 ^ (1074 - (k + j))) := by rw [e1]; ac_rfl)
  refine ⟨hf, ?_, hkj⟩
  rw [hv, sgn_pow]
  congr 1
  have sx : a = sgn sa a.natAbs := by
    have e := val_eq dx
    rw [vx] at e
    have en : (val x).natAbs = ma * 2 ^ (ea + 1074).toNat := val_natAbs dx
    rw [nx] at en
    rw [← en, sgn_pow] at e
    exact Int.eq_of_mul_eq_mul_right (Int.ne_of_gt (Int.pow_pos (by decide))) e
  have sy : b = sgn sb b.natAbs := by
    have e := val_eq dy
    rw [vy] at e
    have en : (val y).natAbs = mb * 2 ^ (eb + 1074).toNat := val_natAbs dy
    rw [ny] at en
    rw [← en, sgn_pow] at e
    exact Int.eq_of_mul_eq_mul_right (Int.ne_of_gt (Int.pow_pos (by decide))) e
  rw [Int.natAbs_mul, sgn_prod, ← sx, ← sy]
theorem dy_frac {n k : Nat} (hn : n < 2 ^ 53) (hk : k ≤ 1074) : Dy k n (ofFrac false n (2 ^ k)) := by
  have hp := Nat.two_pow_pos k
  have R := ofFrac_right (neg := false) (n := n) (d := 2 ^ k) (W := n * 2 ^ (1074 - k)) (D := 1) hp (by
    rw [Nat.mul_one, Nat.mul_assoc, ← Nat.pow_add]; congr 2; omega) (by decide)
  obtain ⟨hf, hv⟩ := exact_of (N := n) (j := 1074 - k) R (by decide) hn (by omega) (by simp)
  refine ⟨hf, ?_, hk⟩
  rw [hv]
  show ((n * 2 ^ (1074 - k) : Nat) : Int) = _
  simp
theorem dy_int {i : Int} (h : i.natAbs < 2 ^ 53) : Dy 0 i (ofInt i) := by
  have R := ofInt_right i
  obtain ⟨hf, hv⟩ := exact_of (N := i.natAbs) (j := 1074) R (by decide) h (by omega) (by simp)
  refine ⟨hf, ?_, by decide⟩
  rw [hv, sgn_pow, sgn_of]
theorem dy_scale {k : Nat} {n : Int} {x : UInt64} (c : Nat) (h : Dy k n x) (hc : k + c ≤ 1074) : Dy (k + c) (n * 2 ^ c) x := by
  obtain ⟨hf, hv, hk⟩ := h
  refine ⟨hf, ?_, hc⟩
  rw [hv, Int.mul_assoc, ← Int.pow_add]
  congr 2
  omega
theorem cmp_scale (p q : Int) (j : Nat) : compare (p * 2 ^ j) (q * 2 ^ j) = compare p q := by
  have hp : (0 : Int) < 2 ^ j := Int.pow_pos (by decide)
  rcases Int.lt_trichotomy p q with h | h | h
  · rw [Int.compare_eq_lt.mpr h, Int.compare_eq_lt.mpr (Int.mul_lt_mul_of_pos_right h hp)]
  · subst h; rw [Int.compare_eq_eq.mpr rfl, Int.compare_eq_eq.mpr rfl]
  · rw [Int.compare_eq_gt.mpr h, Int.compare_eq_gt.mpr (Int.mul_lt_mul_of_pos_right h hp)]
theorem dy_cmp {k : Nat} {a b : Int} {x y : UInt64} (hx : Dy k a x) (hy : Dy k b y) : cmp x y = some (compare a b) := by
  obtain ⟨⟨sa, ma, ea, dx⟩, vx, hk⟩ := hx
  obtain ⟨⟨sb, mb, eb, dy⟩, vy, _⟩ := hy
  rw [cmp_right dx dy, vx, vy, cmp_scale]
theorem dy_cmpZ {k : Nat} {a : Int} {x : UInt64} (hx : Dy k a x) : cmpInt x 0 = some (compare a 0) := by
  obtain ⟨⟨sa, ma, ea, dx⟩, vx, hk⟩ := hx
  rw [cmpInt_right dx, vx]
  have e := cmp_scale a 0 (1074 - k)
  rw [Int.zero_mul] at e ⊢
  rw [e]
end Dya
end
end PartPL1
section PartPL2
set_option exponentiation.threshold 2000
section
namespace Dya
open PySem PySem.Float64
theorem six_dy : Dy 0 6 4618441417868443648 := by
  have h := dy_int (i := 6) (by decide)
  have e : ofInt 6 = 4618441417868443648 := by decide +kernel
  rw [e] at h
  exact h
/-- one blend, exactly: in units of 2^-(k+e) -/
noncomputable def bl (A a X Y : Int) : Int := X * (A - a) + Y * a
theorem fv_dy {k e : Nat} {u X Y : Int} {z x y : UInt64} (hz : Dy e u z) (hx : Dy k X x) (hy : Dy k Y y) (hk : k + e ≤ 1074)
    (h1 : (Y - X).natAbs < 2 ^ 53) (h2 : ((Y - X) * u).natAbs < 2 ^ 53) (h3 : ((Y - X) * u * 6).natAbs < 2 ^ 53) (h4 : (bl (2 ^ e) (6 * u) X Y).natAbs < 2 ^ 53) :
    Dy (k + e) (bl (2 ^ e) (6 * u) X Y) (fv z x y) := by
  have d1 := dy_sub hy hx h1
  have d2 := dy_mul d1 hz hk h2
  have d3 := dy_mul d2 six_dy (by omega) h3
  have d4 := dy_scale e hx hk
  have e1 : X * 2 ^ e + (Y - X) * u * 6 = bl (2 ^ e) (6 * u) X Y := by
    unfold bl
    grind
  have d5 := dy_add d4 d3 (by rw [e1]; exact h4)
  rw [e1] at d5
  exact d5
theorem bl_le {A a X Y M : Int} (ha : 0 ≤ a) (hA : a ≤ A) (hX : -M ≤ X ∧ X ≤ M) (hY : -M ≤ Y ∧ Y ≤ M) : -(M * A) ≤ bl A a X Y ∧ bl A a X Y ≤ M * A := by
  unfold bl
  have e1 : X * (A - a) ≤ M * (A - a) := Int.mul_le_mul_of_nonneg_right hX.2 (by omega)
  have e2 : Y * a ≤ M * a := Int.mul_le_mul_of_nonneg_right hY.2 ha
  have e3 : -M * (A - a) ≤ X * (A - a) := Int.mul_le_mul_of_nonneg_right hX.1 (by omega)
  have e4 : -M * a ≤ Y * a := Int.mul_le_mul_of_nonneg_right hY.1 ha
  have e5 : M * (A - a) + M * a = M * A := by grind
  have e6 : -M * (A - a) + -M * a = -(M * A) := by grind
  omega
theorem fv_ok {k e : Nat} {u X Y M : Int} {z x y : UInt64} (hz : Dy e u z) (hx : Dy k X x) (hy : Dy k Y y) (hk : k + e ≤ 1074) (hu0 : 0 ≤ u) (hu1 : 6 * u ≤ 2 ^ e) (hX : -M ≤ X ∧ X ≤ M) (hY : -M ≤ Y ∧ Y ≤ M) (hM : 2 * (M * 2 ^ e) < 2 ^ 53) :
    Dy (k + e) (bl (2 ^ e) (6 * u) X Y) (fv z x y) ∧ -(M * 2 ^ e) ≤ bl (2 ^ e) (6 * u) X Y ∧ bl (2 ^ e) (6 * u) X Y ≤ M * 2 ^ e := by
  have hb := bl_le (A := 2 ^ e) (a := 6 * u) (by omega) hu1 hX hY
  have hp : (0 : Int) < 2 ^ e := Int.pow_pos (by decide)
  have hM0 : 0 ≤ M := by omega
  have hD : -(2 * M) ≤ Y - X ∧ Y - X ≤ 2 * M := by omega
  have hMe : M ≤ M * 2 ^ e := by
    have := Int.mul_le_mul_of_nonneg_left (show (1 : Int) ≤ 2 ^ e by omega) hM0
    omega
  have m1 : (Y - X) * (6 * u) ≤ 2 * M * 2 ^ e ∧ -(2 * M * 2 ^ e) ≤ (Y - X) * (6 * u) := by
    have q1 : (Y - X) * (6 * u) ≤ (2 * M) * (6 * u) := Int.mul_le_mul_of_nonneg_right hD.2 (by omega)
    have q2 : -(2 * M) * (6 * u) ≤ (Y - X) * (6 * u) := Int.mul_le_mul_of_nonneg_right hD.1 (by omega)
    have q3 : (2 * M) * (6 * u) ≤ 2 * M * 2 ^ e := Int.mul_le_mul_of_nonneg_left hu1 (by omega)
    have q4 : -(2 * M) * (6 * u) = -((2 * M) * (6 * u)) := Int.neg_mul ..
    omega
  have e2 : 2 * M * 2 ^ e = 2 * (M * 2 ^ e) := Int.mul_assoc ..
  have e3 : (Y - X) * u * 6 = (Y - X) * (6 * u) := by grind
  have e4 : (Y - X) * (6 * u) = 6 * ((Y - X) * u) := by grind
  refine ⟨fv_dy hz hx hy hk (by omega) (by omega) (by omega) (by omega), hb⟩
end Dya
end
end PartPL2
section PartPL3
set_option exponentiation.threshold 2000
section
namespace Dya
open PySem PySem.Float64
noncomputable def sg (x : Int) : Fin 3 := if x = 0 then 0 else if 0 < x then 1 else 2
noncomputable def wS (l : List (Fin 3)) : List Nat := (l.filter (· != 0)).map fun s => if s == 1 then 97 else 65
noncomputable def tS (l : List (Fin 3)) : Int := turns (wS l)
noncomputable def Cv (a b y : Fin 3) : Bool := if a = b then y == a else if a = 0 then y == b else if b = 0 then y == a else true
noncomputable def allF (f : Fin 3 → Bool) : Bool := f 0 && (f 1 && f 2)
theorem allF_all {f : Fin 3 → Bool} (h : allF f = true) : ∀ x, f x = true := by
  unfold allF at h
  simp only [Bool.and_eq_true] at h
  intro x
  match x with
  | 0 => exact h.1
  | 1 => exact h.2.1
  | 2 => exact h.2.2
noncomputable def im (a b : Bool) : Bool := match a with | true => b | false => true
theorem im_of {a b : Bool} (h : im a b = true) (k : a = true) : b = true := by subst k; exact h
theorem vdB : (allF fun s0 => allF fun s1 => allF fun s2 => allF fun s3 => allF fun y0 => im (Cv s0 s1 y0) (allF fun y1 => im (Cv s1 s2 y1) (allF fun y2 => im (Cv s2 s3 y2) (allF fun z0 => im (Cv y0 y1 z0) (allF fun z1 => im (Cv y1 y2 z1) (allF fun v => im (Cv z0 z1 v)
    (decide (tS [s0, y0, z0, v] + tS [v, z1, y2, s3] ≤ tS [s0, s1, s2, s3]))))))) ) = true := by decide +kernel
theorem vd (s0 s1 s2 s3 y0 : Fin 3) (h0 : Cv s0 s1 y0 = true) (y1 : Fin 3) (h1 : Cv s1 s2 y1 = true) (y2 : Fin 3) (h2 : Cv s2 s3 y2 = true) (z0 : Fin 3) (h3 : Cv y0 y1 z0 = true) (z1 : Fin 3) (h4 : Cv y1 y2 z1 = true) (v : Fin 3) (h5 : Cv z0 z1 v = true) :
    tS [s0, y0, z0, v] + tS [v, z1, y2, s3] ≤ tS [s0, s1, s2, s3] := by
  have h := allF_all (allF_all (allF_all (allF_all (allF_all vdB s0) s1) s2) s3) y0
  have h := im_of (allF_all (im_of h h0) y1) h1
  have h := im_of (allF_all h y2) h2
  have h := im_of (allF_all h z0) h3
  have h := im_of (allF_all h z1) h4
  exact of_decide_eq_true (im_of (allF_all h v) h5)
theorem sg_zero {x : Int} : sg x = 0 ↔ x = 0 := by
  unfold sg; by_cases h : x = 0 <;> by_cases h2 : 0 < x <;> simp [h, h2]
theorem sg_pos {x : Int} : sg x = 1 ↔ 0 < x := by
  unfold sg; by_cases h : x = 0 <;> by_cases h2 : 0 < x <;> simp [h, h2]
theorem sg_neg {x : Int} : sg x = 2 ↔ x < 0 := by
  unfold sg
  by_cases h : x = 0
  · simp [h]
  · by_cases h2 : 0 < x
    · simp [h, h2]; omega
    · simp [h, h2]; omega
theorem cv_bl {A a X Y : Int} (h0 : 0 < a) (h1 : a < A) : Cv (sg X) (sg Y) (sg (bl A a X Y)) = true := by
  have hp : 0 < A - a := by omega
  have key : ∀ {p q : Int}, 0 < p → 0 < q → Cv (sg X) (sg Y) (sg (X * p + Y * q)) = true := by
    intro p q hp hq
    have tri : ∀ z : Int, (z < 0 ∧ sg z = 2) ∨ (z = 0 ∧ sg z = 0) ∨ (0 < z ∧ sg z = 1) := fun z => by
      rcases Int.lt_trichotomy z 0 with h | h | h
      · exact .inl ⟨h, sg_neg.mpr h⟩
      · exact .inr (.inl ⟨h, sg_zero.mpr h⟩)
      · exact .inr (.inr ⟨h, sg_pos.mpr h⟩)
    rcases tri X with ⟨hx, ex⟩ | ⟨hx, ex⟩ | ⟨hx, ex⟩ <;> rcases tri Y with ⟨hy, ey⟩ | ⟨hy, ey⟩ | ⟨hy, ey⟩
    · have h1 := Int.mul_neg_of_neg_of_pos hx hp
      have h2 := Int.mul_neg_of_neg_of_pos hy hq
      rw [ex, ey, sg_neg.mpr (by omega)]; rfl
    · have h1 := Int.mul_neg_of_neg_of_pos hx hp
      rw [ex, ey, hy, Int.zero_mul, Int.add_zero, sg_neg.mpr h1]; rfl
    · rw [ex, ey]; rfl
    · have h2 := Int.mul_neg_of_neg_of_pos hy hq
      rw [ex, ey, hx, Int.zero_mul, Int.zero_add, sg_neg.mpr h2]; rfl
    · rw [ex, ey, hx, hy, Int.zero_mul, Int.zero_mul, Int.add_zero, sg_zero.mpr rfl]; rfl
    · have h2 := Int.mul_pos hy hq
      rw [ex, ey, hx, Int.zero_mul, Int.zero_add, sg_pos.mpr h2]; rfl
    · rw [ex, ey]; rfl
    · have h1 := Int.mul_pos hx hp
      rw [ex, ey, hy, Int.zero_mul, Int.add_zero, sg_pos.mpr h1]; rfl
    · have h1 := Int.mul_pos hx hp
      have h2 := Int.mul_pos hy hq
      rw [ex, ey, sg_pos.mpr (by omega)]; rfl
  exact key hp h0
inductive DyL : List Int → List UInt64 → Prop
  | nil : DyL [] []
  | cons {k : Nat} {n : Int} {b : UInt64} {ns bs} : Dy k n b → DyL ns bs → DyL (n :: ns) (b :: bs)
theorem dy_nz {k : Nat} {n : Int} {b : UInt64} (h : Dy k n b) : nzF b = (sg n != 0) := by
  unfold nzF
  rw [dy_cmpZ h]
  rcases Int.lt_trichotomy n 0 with q | q | q
  · rw [Int.compare_eq_lt.mpr q, sg_neg.mpr q]; rfl
  · rw [q]; rfl
  · rw [Int.compare_eq_gt.mpr q, sg_pos.mpr q]; rfl
theorem dy_ps {k : Nat} {n : Int} {b : UInt64} (h : Dy k n b) : psF b = (sg n == 1) := by
  unfold psF
  rw [dy_cmpZ h]
  rcases Int.lt_trichotomy n 0 with q | q | q
  · rw [Int.compare_eq_lt.mpr q, sg_neg.mpr q]; rfl
  · rw [q]; rfl
  · rw [Int.compare_eq_gt.mpr q, sg_pos.mpr q]; rfl
theorem word_sg {ns : List Int} {bs : List UInt64} (h : DyL ns bs) : wordOf bs = wS (ns.map sg) := by
  induction h with
  | nil => rfl
  | @cons k n b ns bs hd _ ih =>
    unfold wordOf wS at *
    simp only [List.map_cons, List.filter_cons, dy_nz hd]
    cases e : (sg n != 0)
    · simpa using ih
    · simp only [if_true, List.map_cons, ih]
      unfold chF
      rw [dy_ps hd]
theorem turns_sg {ns : List Int} {bs : List UInt64} (h : DyL ns bs) : turns (wordOf bs) = tS (ns.map sg) := by
  unfold tS; rw [word_sg h]
end Dya
end
end PartPL3
section PartPL4
set_option exponentiation.threshold 2000
section
namespace Dya
open PySem PySem.Float64
structure Cut (k e : Nat) (u x0 x1 x2 x3 M : Int) (z b0 b1 b2 b3 c0 c1 c2 d0 d1 f : UInt64) : Prop where
  fst : firsts z 4 [b0, b1, b2, b3] = [b0, c0, d0, f]
  lst : lasts z 4 [b0, b1, b2, b3] = [f, d1, c2, b3]
  h0 : Dy k x0 b0
  h1 : Dy k x1 b1
  h2 : Dy k x2 b2
  h3 : Dy k x3 b3
  y0 : Dy (k + e) (bl (2 ^ e) (6 * u) x0 x1) c0
  y1 : Dy (k + e) (bl (2 ^ e) (6 * u) x1 x2) c1
  y2 : Dy (k + e) (bl (2 ^ e) (6 * u) x2 x3) c2
  z0 : Dy (k + e + e) (bl (2 ^ e) (6 * u) (bl (2 ^ e) (6 * u) x0 x1) (bl (2 ^ e) (6 * u) x1 x2)) d0
  z1 : Dy (k + e + e) (bl (2 ^ e) (6 * u) (bl (2 ^ e) (6 * u) x1 x2) (bl (2 ^ e) (6 * u) x2 x3)) d1
  v : Dy (k + e + e + e) (bl (2 ^ e) (6 * u) (bl (2 ^ e) (6 * u) (bl (2 ^ e) (6 * u) x0 x1) (bl (2 ^ e) (6 * u) x1 x2)) (bl (2 ^ e) (6 * u) (bl (2 ^ e) (6 * u) x1 x2) (bl (2 ^ e) (6 * u) x2 x3))) f
theorem cut_dy {k e : Nat} {u x0 x1 x2 x3 M : Int} {z b0 b1 b2 b3 : UInt64} (hz : Dy e u z) (hu0 : 0 ≤ u) (hu1 : 6 * u ≤ 2 ^ e) (hk : k + e + e + e ≤ 1074)
    (h0 : Dy k x0 b0) (h1 : Dy k x1 b1) (h2 : Dy k x2 b2) (h3 : Dy k x3 b3) (g0 : -M ≤ x0 ∧ x0 ≤ M) (g1 : -M ≤ x1 ∧ x1 ≤ M) (g2 : -M ≤ x2 ∧ x2 ≤ M) (g3 : -M ≤ x3 ∧ x3 ≤ M)
    (hM : 2 * (M * 2 ^ e * 2 ^ e * 2 ^ e) < 2 ^ 53) : ∃ c0 c1 c2 d0 d1 f, Cut k e u x0 x1 x2 x3 M z b0 b1 b2 b3 c0 c1 c2 d0 d1 f := by
  have hM0 : 0 ≤ M := by omega
  have hp : (1 : Int) ≤ 2 ^ e := by have : (0 : Int) < 2 ^ e := Int.pow_pos (by decide); omega
  have n1 : 0 ≤ M * 2 ^ e := Int.mul_nonneg hM0 (by omega)
  have n2 : 0 ≤ M * 2 ^ e * 2 ^ e := Int.mul_nonneg n1 (by omega)
  have s1 : M * 2 ^ e ≤ M * 2 ^ e * 2 ^ e := by
    have := Int.mul_le_mul_of_nonneg_left hp n1
    omega
  have s2 : M * 2 ^ e * 2 ^ e ≤ M * 2 ^ e * 2 ^ e * 2 ^ e := by
    have := Int.mul_le_mul_of_nonneg_left hp n2
    omega
  obtain ⟨a0, q0⟩ := fv_ok hz h0 h1 (by omega) hu0 hu1 g0 g1 (by omega)
  obtain ⟨a1, q1⟩ := fv_ok hz h1 h2 (by omega) hu0 hu1 g1 g2 (by omega)
  obtain ⟨a2, q2⟩ := fv_ok hz h2 h3 (by omega) hu0 hu1 g2 g3 (by omega)
  obtain ⟨r0, t0⟩ := fv_ok hz a0 a1 (by omega) hu0 hu1 q0 q1 (by omega)
  obtain ⟨r1, t1⟩ := fv_ok hz a1 a2 (by omega) hu0 hu1 q1 q2 (by omega)
  obtain ⟨w0, _⟩ := fv_ok hz r0 r1 (by omega) hu0 hu1 t0 t1 (by omega)
  exact ⟨_, _, _, _, _, _, rfl, rfl, h0, h1, h2, h3, a0, a1, a2, r0, r1, w0⟩
theorem Cut.turns_le {k e : Nat} {u x0 x1 x2 x3 M : Int} {z b0 b1 b2 b3 c0 c1 c2 d0 d1 f : UInt64} (h : Cut k e u x0 x1 x2 x3 M z b0 b1 b2 b3 c0 c1 c2 d0 d1 f) (hu0 : 0 < u) (hu1 : 6 * u < 2 ^ e) :
    turns (wordOf (firsts z 4 [b0, b1, b2, b3])) + turns (wordOf (lasts z 4 [b0, b1, b2, b3])) ≤ turns (wordOf [b0, b1, b2, b3]) := by
  have p0 : (0 : Int) < 6 * u := by omega
  rw [h.fst, h.lst, turns_sg (.cons h.h0 (.cons h.y0 (.cons h.z0 (.cons h.v .nil)))), turns_sg (.cons h.v (.cons h.z1 (.cons h.y2 (.cons h.h3 .nil)))), turns_sg (.cons h.h0 (.cons h.h1 (.cons h.h2 (.cons h.h3 .nil))))]
  exact vd _ _ _ _ _ (cv_bl p0 hu1) _ (cv_bl p0 hu1) _ (cv_bl p0 hu1) _ (cv_bl p0 hu1) _ (cv_bl p0 hu1) _ (cv_bl p0 hu1)
noncomputable def DyZ : List Int → List UInt64 → Prop
  | [], [] => True
  | n :: ns, b :: bs => Dy 0 n b ∧ DyZ ns bs
  | _, _ => False
noncomputable def asum : List Int → Int
  | [] => 0
  | n :: ns => (if 0 ≤ n then n else -n) + asum ns
theorem asum_nonneg : ∀ ns, 0 ≤ asum ns
  | [] => by decide
  | n :: ns => by
    have := asum_nonneg ns
    unfold asum
    split <;> omega
theorem settled_dy {T : Int} {t c : UInt64} (ht : Dy 0 T t) (hc : Dy 0 0 c) (hT : T.natAbs < 2 ^ 53) : Dy 0 T (PySem.W.Num.settled t c) := by
  unfold PySem.W.Num.settled
  split
  · have := dy_add ht hc (by rw [Int.add_zero]; exact hT)
    rwa [Int.add_zero] at this
  · exact ht
theorem sumBits_dy : ∀ (ns : List Int) (bs : List UInt64) (T : Int) (t c : UInt64), DyZ ns bs → Dy 0 T t → Dy 0 0 c → T.natAbs + (asum ns).natAbs < 2 ^ 52 → Dy 0 (T + ns.sum) (PySem.Flt.sumBits bs t c)
  | [], [], T, t, c, _, ht, hc, hB => by
    unfold PySem.Flt.sumBits
    rw [List.sum_nil, Int.add_zero]
    exact settled_dy ht hc (by omega)
  | n :: ns, b :: bs, T, t, c, ⟨hn, hr⟩, ht, hc, hB => by
    have ha := asum_nonneg ns
    have ha2 : asum (n :: ns) = (if 0 ≤ n then n else -n) + asum ns := rfl
    have hn1 : n.natAbs + (asum ns).natAbs = (asum (n :: ns)).natAbs := by rw [ha2]; split <;> omega
    have hB2 : T.natAbs + n.natAbs + (asum ns).natAbs < 2 ^ 52 := by rw [Nat.add_assoc, hn1]; exact hB
    have kn := Int.natAbs_add_le T n
    have k2 : T.natAbs + n.natAbs < 2 ^ 53 := Nat.lt_trans (Nat.lt_of_le_of_lt (Nat.le_add_right _ _) hB2) (by decide)
    have d1 : Dy 0 (T + n) (add t b) := dy_add ht hn (Nat.lt_of_le_of_lt kn k2)
    have l1 : Dy 0 0 (add (sub b (add t b)) t) := by
      have e0 : n - (T + n) = -T := by rw [Int.sub_eq_add_neg, Int.neg_add, Int.add_comm (-T), ← Int.add_assoc, Int.add_right_neg, Int.zero_add]
      have e1 := dy_sub hn d1 (by rw [e0, Int.natAbs_neg]; exact Nat.lt_of_le_of_lt (Nat.le_add_right _ _) k2)
      rw [e0] at e1
      have e2 := dy_add e1 ht (by rw [Int.add_left_neg]; decide)
      rwa [Int.add_left_neg] at e2
    have l2 : Dy 0 0 (add (sub t (add t b)) b) := by
      have e0 : T - (T + n) = -n := by rw [Int.sub_eq_add_neg, Int.neg_add, ← Int.add_assoc, Int.add_right_neg, Int.zero_add]
      have e1 := dy_sub ht d1 (by rw [e0, Int.natAbs_neg]; exact Nat.lt_of_le_of_lt (Nat.le_add_left _ _) k2)
      rw [e0] at e1
      have e2 := dy_add e1 hn (by rw [Int.add_left_neg]; decide)
      rwa [Int.add_left_neg] at e2
    unfold PySem.Flt.sumBits
    rw [List.sum_cons, ← Int.add_assoc]
    refine sumBits_dy ns bs (T + n) _ _ hr d1 ?_ (Nat.lt_of_le_of_lt (Nat.add_le_add_right kn _) hB2)
    have hz : ∀ l, Dy 0 0 l → Dy 0 0 (add c l) := fun l h => by
      have := dy_add hc h (by decide)
      simpa using this
    split
    · exact hz _ l1
    · exact hz _ l2
  | [], _ :: _, _, _, _, h, _, _, _ => h.elim
  | _ :: _, [], _, _, _, h, _, _, _ => h.elim
theorem zero_dy : Dy 0 0 (0 : UInt64) := by
  have h := dy_int (i := 0) (by decide)
  have e : ofInt 0 = 0 := by decide +kernel
  rw [e] at h
  exact h
theorem sumOf_dy {ns : List Int} {bs : List UInt64} (h : DyZ ns bs) (hne : bs ≠ []) (hB : (asum ns).natAbs < 2 ^ 51) : Dy 0 ns.sum (PySem.Flt.sumOf bs) := by
  match ns, bs, h with
  | [], [], _ => exact absurd rfl hne
  | n :: ns, b :: bs, ⟨hn, hr⟩ =>
    have ha := asum_nonneg ns
    have ha2 : asum (n :: ns) = (if 0 ≤ n then n else -n) + asum ns := rfl
    have hn1 : n.natAbs + (asum ns).natAbs = (asum (n :: ns)).natAbs := by rw [ha2]; split <;> omega
    have h0 : Dy 0 0 (ofInt 0) := dy_int (by decide)
    have d1 := dy_add h0 hn (by omega)
    rw [Int.zero_add] at d1
    unfold PySem.Flt.sumOf
    rw [List.sum_cons]
    exact sumBits_dy ns bs n _ _ hr d1 zero_dy (by omega)
end Dya
end
end PartPL4
section PartLX
open PySem PySem.W PySem.Spec PySem.Calls PyProof.Rows
section
noncomputable abbrev txt (l : List Nat) : Str := ⟨l.toArray⟩
noncomputable def sp (n : Int) : List Nat := List.replicate n.toNat 32
theorem sp_len (n : Int) : (sp n).length = n.toNat := List.length_replicate
theorem foldl_rep (k : Nat) (a : Array Nat) : ((List.replicate k #[32]).foldl (· ++ ·) a).toList = a.toList ++ List.replicate k 32 := by
  induction k generalizing a with
  | zero => simp
  | succ k ih => rw [List.replicate_succ, List.foldl_cons, ih, List.replicate_succ]; simp
theorem mul_txt {n : Int} (h0 : 0 ≤ n) : Txt.mul (Str.ofString " ") n = txt (sp n) := by
  have e : Str.ofString " " = txt [32] := by decide +kernel
  rw [e]
  unfold Txt.mul sp
  by_cases h1 : n < 1
  · have : n = 0 := by omega
    subst this
    rfl
  · rw [if_neg h1]
    by_cases h2 : n = 1
    · subst h2; rfl
    · rw [if_neg (by simp [h2, Str.length])]
      congr 1
      apply Array.toList_inj.mp
      rw [foldl_rep]
      simp
section
variable {prog : Program} {w : World} {A : Around} {E : Value → Shared → Prop} {s : Shared} {t u : Tok} {Q : Value → Shared → Prop} {a b : List Nat} {y : Str} {n : Int}
theorem mul_sp (h0 : 0 ≤ n) (h1 : n ≤ 100) (h : ∀ t' k, Q (.str (txt (sp n)) t') { s with toks := k }) : wpAny (model prog w) A (binaryOp .Mult (.str (Str.ofString " ") t) (.int n u)) Q E s := by
  have el : (Str.ofString " ").length = 1 := by decide +kernel
  refine SB.mul ⟨?_, fun hn _ => ?_, fun hn _ => ?_⟩ (by rw [mul_txt h0]; exact h)
  · simp; omega
  · rw [el]
    have : (1 : Int) ≤ (2 ^ 63 - 1) / n := (Int.le_ediv_iff_mul_le (by omega)).mpr (by omega)
    omega
  · rw [el]
    unfold Builtin.Str.tooLong
    have := sizeLine_eq
    simp only [decide_eq_false_iff_not]
    omega
theorem add_txt (ha : a.length ≤ 1000) (hb : b.length ≤ 1000) (hy : y = txt b) (h : ∀ t' k, Q (.str (txt (a ++ b)) t') { s with toks := k }) : wpAny (model prog w) A (binaryOp .Add (.str (txt a) t) (.str y u)) Q E s := by
  subst hy
  refine PyProof.Rows.add_str (fun t' tk => ?_) (by rw [sizeLine_eq]; simp only [Str.length, List.size_toArray]; omega)
  have e : (txt a ++ txt b : Str) = txt (a ++ b) := by
    show Str.append _ _ = _
    unfold Str.append
    congr 1
    simp
  rw [e]
  exact h t' tk
end
theorem tab_txt : Str.ofString "\t" = txt [9] := by decide +kernel
theorem xend_txt : Str.ofString "x \t" = txt [120, 32, 9] := by decide +kernel
end
end PartLX
section Walks
local macro_rules | `(tactic| k_mem) => `(tactic| exact mem_of (by assumption))
local macro_rules | `(tactic| k_all) => `(tactic| exact all_ne (by assumption) (by omega))
local macro_rules | `(tactic| is_list) => `(tactic| exact News.isList (by k_asm) (by k_mem))
local macro_rules | `(tactic| ktr_rel) => `(tactic| first | with_reducible assumption | exact look_hit | (refine' look_skip ?h ?e; (case h => decide); (case e => ktr_rel)))
local macro_rules | `(tactic| walk_at "eval Name") => `(tactic| (k_here; k_dflt (refine' nameX_L ?F ?v ?_ ?a ?b; (case F => k_asm); (case a => rfl); (case b => rfl); (case v => ktr_rel); k_whole)))
local macro_rules | `(tactic| walk_at "enterD") => `(tactic| (refine' code_def ?k1 ?k2 ?k3 ?k4 ?k5 ?kA ?kF ?kK ?k6 ?k7 ?k8 ?k9 ?kB ?_ ?c2 ?c3 ?c4 ?c5; (case kA => exact rfl); (case kF => exact rfl); (case kK => assumption); walk_at "cK"; (case k6 => k_is); (case k7 => k_is); (case k8 => ktr_room); (case k9 => exact binds_K (by k_in) rfl (by k_is) rfl rfl rfl); (case c5 => decide); (case kB => exact locs rfl); (case c2 => exact rfl); (case c3 => exact rfl); (case c4 => exact rfl); k_whole; intro g' L' h' FG' F' N' B' X' T'; (try dsimp only); (try k_lift B'); (try k_fold)))
local macro_rules | `(tactic| walk_at "enterC") => `(tactic| (refine' code_defC ?k1 ?k2 ?k3 ?k4 ?k5 ?kA ?kF ?kK ?k6 ?k7 ?k8 ?k9 ?kB ?kD ?_ ?c2 ?c3 ?c4; (case kA => exact rfl); (case kF => exact rfl); (case kK => assumption); walk_at "cK"; (case k6 => k_is); (case k7 => k_is); (case k8 => ktr_room); (case k9 => first | exact BindsTo.of_eq rfl | exact binds_K (by k_in) rfl (by k_is) rfl rfl rfl | fail "k_enter: no rule for these arguments"); (case kB => exact rfl); (case kD => decide +kernel); (case c2 => exact rfl); (case c3 => exact rfl); (case c4 => exact rfl); k_whole; intro g' L' h' tk' cells' FG' F' N' Y' B' X' T' l1; (try k_lt l1); k_cells Y'; (try simp only [List.cons_append, List.nil_append] at N'); (try dsimp only); (try k_lift B'); (try k_fold)))
local macro_rules | `(tactic| ktn_open) => `(tactic| first | cell_enter | walk_at "enterD" | walk_at "enterC")
section PartC5
open PySem PySem.W PySem.Spec PySem.Calls PyProof.Rows
section
section
variable {w : World} {p : Program} {loose : List Str} {mean : ExcName → Option Value} {mg mb : Str → Option Value} {dp un : Nat} {gd : Option (List Code)} {cn : Str} {cs : Scope} {a : Addr} {ccd : Value} {cl : List (Str × Addr)} {outer : List Env} {A₀ : Around} {base h₀ : Heap} {L : Addr} {m : Str → Option Value} {news : List (Addr × Obj)} {s : Shared} {Q E : Value → Shared → Prop}
local macro_rules | `(tactic| k_all) => `(tactic| assumption)
local macro_rules | `(tactic| walk_at "call type:set nil nil") => `(tactic| (k_here; k_dflt (refine' new_K (by k_asm) (by k_asm) ?_); intro D' h' F' N' l1 hS'; (try k_lt l1)))
local macro_rules | `(tactic| walk_at "eval Set") => `(tactic| (k_here; k_dflt (refine' disp_eval (by k_asm) (by first | k_asm | exact News.nil) (by k_asm) (by first | k_is | kernel_rfl!) (by kds_road) (by kds_road) (by exact Nat.le_of_ble_eq_true rfl) ?_); intro d' h' F' N' l1 hs'; (try k_lt l1); (try dsimp only [KdsAll])))
local macro_rules | `(tactic| walk_at "setAdd int") => `(tactic| (k_here; k_dflt (refine' add_Kf (by k_asm) (by k_asm) (by k_updF) (by with_reducible assumption) (by omega) ?_); intro h' o' F' N' hs'; (try dsimp only at N')))
local macro_rules | `(tactic| walk_at "pyIter ref") => `(tactic| (k_here; refine Stop.out ?_))
local macro_rules | `(tactic| walk_at "exec While") => `(tactic| (k_here; refine Stop.out ?_))
local macro_rules | `(tactic| walk_at "call builtin:set.add") => `(tactic| (k_here; k_dflt (first | (refine' add_K (by k_asm) (by k_asm) (by k_updF) (by with_reducible assumption) (by (first | omega | (split <;> omega))) ?_; intro h' o' F' N' hs'; (try dsimp only at N')) | (refine' need_add_K (by k_asm) (by k_asm) (by k_updF) (by with_reducible assumption) (by decide) ?_; intro h' o' F' N' hs'; (try dsimp only at N')))))
local macro_rules | `(tactic| walk_at "call builtin:sorted") => `(tactic| (k_here; k_dflt (refine' sorted_need (by exact rfl) (by k_asm) (by k_asm) (by k_mem) (by with_reducible assumption) ?_); intro D' h' tk' u1 u2 u3 c' F' N' l1; (try k_lt l1)))
local macro_rules | `(tactic| walk_at "call builtin:iter") => `(tactic| (k_here; k_dflt (refine' iter_K (by k_asm) (by k_asm) (by exact News.isList (by k_asm) (by first | exact mem_of (by assumption) | k_mem)) ?_; skip); intro D' h' o' F' N' l1 hi'; (try k_lt l1)))
local macro_rules | `(tactic| walk_at "call builtin:next") => `(tactic| (k_here; k_dflt (refine' next_K (by k_asm) (by k_asm) (by k_updF) (by with_reducible assumption) (by exact News.isList (by k_asm) (by k_mem)) (by rfl) ?_); intro h' o' F' N' hi'; (try dsimp only at N')))
local macro_rules | `(tactic| walk_at "truthy ref") => `(tactic| (k_here; k_dflt (first | (refine' truthy_K (by k_asm) (by k_mem) (by with_reducible assumption) (by omega) ?_) | (refine' truthyN_K (by k_asm) (by k_mem) (by with_reducible assumption) ?_))))
local macro_rules | `(tactic| walk_at "getMethod ref") => `(tactic| (k_here; k_dflt (first | ((with_reducible show wpAny _ _ (getMethod (Value.ref _) "pop" _) _ _ _); refine' getpop_K ?N ?m ?S ?_; (case N => k_asm); (case m => k_mem); (case S => with_reducible assumption)) | (refine' getadd_K (by k_asm) (by k_mem) (by with_reducible assumption) ?_) | (refine' getneed_K (by k_asm) (by k_mem) (by with_reducible assumption) ?_))))
local macro_rules | `(tactic| walk_at "call builtin:set.pop") => `(tactic| (k_here; k_dflt (refine' pop_K ?F ?N ?U ?S ?n ?z ?_; (case F => k_asm); (case N => k_asm); (case U => k_updF); (case S => with_reducible assumption); (case n => omega); (case z => omega)); intro h' o' S' k' u' dr' F' N' hS' hk' h1 h2; (try dsimp only at N'); rcases pow_mem (by assumption) hk' with e | e | e | e | e <;> subst e))
local macro_rules | `(tactic| walk_at "compareOp In") => `(tactic| (k_here; k_dflt (refine' in_K (by k_asm) (by k_mem) (by with_reducible assumption) (by omega) ?_)))
theorem c_pow {x : Int} {t1 t2 t3 : Tok} (hx : 0 < x) (hx2 : x < 2 ^ 24)
    (B : Below A₀ base outer h₀) (F : Fr h₀ L s.heap m) (X : (hd.heap_1 w.params).In h₀) (N : News h₀ L s.heap news) (T : Top p loose mean mg mb h₀) (hk : cs.kind = .function)
    (hdp : dp + 3 < recursionLimit) (hun : un + 60 < cLine)
    (hret : ∀ (d : Addr) (oD : Obj) (ta tb tc : Tok) (h' : Heap) (tk' : Nat) (dr' : Drawn), oD.IsDictOf (intKind Pg w) [(1, .int x ta), (2, .int (x * x) tb), (3, .int (x * x * x) tc)] → (d == sysModules) = false → (∀ p ∈ news, p.1 < d) → Fr h₀ L h' m → News h₀ L h' ((d, oD) :: news) →
      Q (.ref d) { s with heap := h', toks := tk', drawn := dr' }) :
    wpAny (model Pg w) (ktrTop dp un gd cn cs L a ccd cl outer) (call (.ref 36) [.int 7 t1, .int x t2, .int 1 t3]) Q E s := by
  w_top off
  refine wpAny_call ?_
  k_dflt ktn_open
  k_steps
  rename_i g L1 h1 FG B1 X1 T1 as _ hlas _ _ an _ _ hlan _ aw _ hfw hlaw _ oW hS0 _ F1 N1
  have hS1 : SetL Pg w oW (fun k' => false || decide (k' = 7)) 1 := hS0
  have hfr := hfw
  clear hfw
  unfold Stop
  refine While_dr (n₀ := 13) (PowJ w aw an as x news) F1 N1 ⟨oW, freshSet w, freshSet w, _, _, 1, 0, false, false, false, _, _, rfl, hS1, hfr, need_fresh w, pow_start, rfl, by decide, by decide, by ktr_rel, by ktr_rel, by ktr_rel, by ktr_rel, by ktr_rel, by ktr_rel⟩ ?_
  intro n m1 led h2 tk2 dr2 F2 N2 hJ
  clear F1 N1 hS0 hS1 hfr
  obtain ⟨oW, oS, oN, W, S, nW, nS, b1, b2, b3, t2, t3, rfl, hW, hS, hN, hP, hn, hn13, hnS, e1, e2, e3, e4, e5, e6⟩ := hJ
  k_steps
  · refine wh_cont rfl (by k_asm) (by k_asm) ?_
    exact powJ_skip hP (by assumption) (by assumption) (by first | exact .inl (by assumption) | exact .inr (by decide)) (by assumption) hn hn13 hnS (by assumption) hS hN (by ktr_rel) (by ktr_rel) (by ktr_rel) (by ktr_rel) (by ktr_rel) (by ktr_rel)
  · refine wh_cont rfl (by k_asm) (by k_asm) ?_
    exact powJ_skip hP (by assumption) (by assumption) (by first | exact .inl (by assumption) | exact .inr (by decide)) (by assumption) hn hn13 hnS (by assumption) hS hN (by ktr_rel) (by ktr_rel) (by ktr_rel) (by ktr_rel) (by ktr_rel) (by ktr_rel)
  · refine wh_cont rfl (by k_asm) (by k_asm) ?_
    exact powJ_skip hP (by assumption) (by assumption) (by first | exact .inl (by assumption) | exact .inr (by decide)) (by assumption) hn hn13 hnS (by assumption) hS hN (by ktr_rel) (by ktr_rel) (by ktr_rel) (by ktr_rel) (by ktr_rel) (by ktr_rel)
  · refine wh_next rfl (by k_asm) (by k_asm) ?_
    refine powJ_even hP (by assumption) (by assumption) ?_ (by assumption) (by assumption) hn hn13 hnS (by assumption) (by assumption) (by assumption) (by ktr_rel) (by ktr_rel) (by ktr_rel) (by ktr_rel) (by ktr_rel) (by ktr_rel)
    exact .inl ⟨rfl, by decide⟩
  · refine wh_cont rfl (by k_asm) (by k_asm) ?_
    exact powJ_skip hP (by assumption) (by assumption) (by first | exact .inl (by assumption) | exact .inr (by decide)) (by assumption) hn hn13 hnS (by assumption) hS hN (by ktr_rel) (by ktr_rel) (by ktr_rel) (by ktr_rel) (by ktr_rel) (by ktr_rel)
  · refine wh_next rfl (by k_asm) (by k_asm) ?_
    refine powJ_odd hP (by assumption) (by assumption) ?_ (by assumption) (by assumption) hn hn13 hnS ?_ (by assumption) (by assumption) (by assumption) (by ktr_rel) (by ktr_rel) (by ktr_rel) (by ktr_rel) (by ktr_rel) (by ktr_rel)
    exact .inl ⟨rfl, by decide⟩
    repeat' split
    all_goals omega
  · refine wh_cont rfl (by k_asm) (by k_asm) ?_
    exact powJ_skip hP (by assumption) (by assumption) (by first | exact .inl (by assumption) | exact .inr (by decide)) (by assumption) hn hn13 hnS (by assumption) hS hN (by ktr_rel) (by ktr_rel) (by ktr_rel) (by ktr_rel) (by ktr_rel) (by ktr_rel)
  · refine wh_next rfl (by k_asm) (by k_asm) ?_
    refine powJ_even hP (by assumption) (by assumption) ?_ (by assumption) (by assumption) hn hn13 hnS (by assumption) (by assumption) (by assumption) (by ktr_rel) (by ktr_rel) (by ktr_rel) (by ktr_rel) (by ktr_rel) (by ktr_rel)
    exact .inr ⟨rfl, by decide⟩
  · refine wh_cont rfl (by k_asm) (by k_asm) ?_
    exact powJ_skip hP (by assumption) (by assumption) (by first | exact .inl (by assumption) | exact .inr (by decide)) (by assumption) hn hn13 hnS (by assumption) hS hN (by ktr_rel) (by ktr_rel) (by ktr_rel) (by ktr_rel) (by ktr_rel) (by ktr_rel)
  · refine wh_next rfl (by k_asm) (by k_asm) ?_
    refine powJ_odd hP (by assumption) (by assumption) ?_ (by assumption) (by assumption) hn hn13 hnS ?_ (by assumption) (by assumption) (by assumption) (by ktr_rel) (by ktr_rel) (by ktr_rel) (by ktr_rel) (by ktr_rel) (by ktr_rel)
    exact .inr ⟨rfl, by decide⟩
    repeat' split
    all_goals omega
  · have hz : nW = 0 := by omega
    subst hz
    obtain ⟨rfl, rfl, rfl⟩ := pow_end hP hW.empty
    k_steps
    rename_i d _ _ hsys _ _ _ _ ld _ _ _ _ l _ _ u1 u2 u3 c ll I _ _ _ lI _ _ _ oI hiI _ _ oD F3 N3 hd3 hf3
    have e1 : x ^ Int.toNat 1 = x := by rw [show Int.toNat 1 = 1 from rfl]; exact Int.pow_one x
    have hd4 : Obj.IsDictOf (intKind Pg w) oD [(1, .int (x ^ Int.toNat 1) _)] := hd3
    rw [e1] at hd4
    clear hd3 hf3
    refine For_invVF F3 rfl rfl ?_
    k_steps
    unfold Stop
    have hII : ∀ p ∈ (d, oD) :: (l, PySem.W.listOf #[Value.int 1 u1, Value.int 2 u2, Value.int 3 u3] c) :: (aw, oW) :: (an, oN) :: (as, oS) :: news, @Ne Nat p.1 I := by
      intro p hp
      simp only [List.mem_cons] at hp
      rcases hp with rfl | rfl | rfl | rfl | rfl | hp
      · exact Nat.ne_of_lt lI.2.1
      · exact Nat.ne_of_lt lI.1
      · exact Nat.ne_of_lt lI.2.2.1
      · exact Nat.ne_of_lt lI.2.2.2.1
      · exact Nat.ne_of_lt lI.2.2.2.2.1
      · exact Nat.ne_of_lt (ktn_ltOf lI.2.2.2.2.2 p hp)
    refine for_iter (l := l) (items := [Value.int 1 u1, Value.int 2 u2, Value.int 3 u3]) (c := c) (k := 1) (n := 2) (PowL w x d ((l, PySem.W.listOf #[Value.int 1 u1, Value.int 2 u2, Value.int 3 u3] c) :: (aw, oW) :: (an, oN) :: (as, oS) :: news)) rfl F3 (cb_drop N3 (by kcj_all)) (.tail _ (.head _)) hiI hII rfl ⟨oD, _, 0, 0, _, rfl, hd4, by ktr_rel, by ktr_rel, by ktr_rel⟩ ?_ ?_
    · rintro i v m₁ led h3 tk3 oI3 hi hv ⟨oD3, ta, tb, tc, tx, rfl, hd5, em1, em2, em3⟩ hmem hoff F4 N4
      have hi2 : i = 0 ∨ i = 1 := by omega
      rcases hi2 with rfl | rfl
      · cases hv
        replace hd5 : Obj.IsDictOf (intKind Pg w) oD3 [(1, .int x ta)] := hd5
        have hf5 : PyProof.V.FlatPairs PyData.int [((1 : Int), Value.int x ta)] [(.int 1, .int x)] := .cons (.int _ _) .nil
        k_steps
        have hII : ∀ (o5 : Obj), ∀ p ∈ (d, o5) :: (l, PySem.W.listOf #[Value.int 1 u1, Value.int 2 u2, Value.int 3 u3] c) :: (aw, oW) :: (an, oN) :: (as, oS) :: news, @Ne Nat p.1 I := fun o5 p hp => by
          rcases List.mem_cons.mp hp with rfl | hp
          · exact Nat.ne_of_lt lI.2.1
          · exact hoff p (.tail _ hp)
        rename_i oD5 F5 N5 hd6 _
        exact forI_next rfl F5 N5 (hII oD5) (.tail _ (.head _)) ⟨oD5, ta, _, 0, tx, rfl, hd6, by ktr_rel, by ktr_rel, by ktr_rel⟩
      · cases hv
        replace hd5 : Obj.IsDictOf (intKind Pg w) oD3 [(1, .int x ta), (2, .int (x * x) tb)] := hd5
        have hf5 : PyProof.V.FlatPairs PyData.int [((1 : Int), Value.int x ta), (2, .int (x * x) tb)] [(.int 1, .int x), (.int 2, .int (x * x))] := .cons (.int _ _) (.cons (.int _ _) .nil)
        k_steps
        have hII : ∀ (o5 : Obj), ∀ p ∈ (d, o5) :: (l, PySem.W.listOf #[Value.int 1 u1, Value.int 2 u2, Value.int 3 u3] c) :: (aw, oW) :: (an, oN) :: (as, oS) :: news, @Ne Nat p.1 I := fun o5 p hp => by
          rcases List.mem_cons.mp hp with rfl | hp
          · exact Nat.ne_of_lt lI.2.1
          · exact hoff p (.tail _ hp)
        rename_i oD5 F5 N5 hd6 _
        exact forI_next rfl F5 N5 (hII oD5) (.tail _ (.head _)) ⟨oD5, ta, tb, _, tx, rfl, hd6, by ktr_rel, by ktr_rel, by ktr_rel⟩
    · rintro h3 tk3 m₁ led F4 N4 ⟨oD3, ta, tb, tc, tx, rfl, hd5, em1, em2, em3⟩
      k_steps
      refine hret d oD3 ta tb tc _ _ _ hd5 hsys ?_ (by k_asm) (cb_drop (by k_asm) (by kcj_all))
      exact ktn_ltOf ld.2.2.2
  · exfalso
    have hz : nW = 0 := by omega
    subst hz
    obtain ⟨rfl, rfl, rfl⟩ := pow_end hP hW.empty
    exact absurd (‹(true || true || true) = false›) (by decide)
end
end
end PartC5
section PartC7
open PySem PySem.W PySem.Spec PySem.Calls PyProof.Rows
section
noncomputable def innerDef (w : World) : Option (Arguments × List Stmt × Scope) :=
  match (hd.heap_1 w.params).lookup 43 with
  | some o => match o.data with
    | .func fd => match fd.body with
      | .stmts (_ :: .FunctionDef _ ps b _ _ _ sc _ _ _ :: _) => some (ps, b, sc)
      | _ => none
    | _ => none
  | none => none
noncomputable def InnerSpec (w : World) (p : Program) (loose : List Str) (mean : ExcName → Option Value) (mg mb : Str → Option Value) (base : Heap) (f D : Addr) (news : List (Addr × Obj)) (k : Nat) : Prop :=
  ∀ (dp un : Nat) (gd : Option (List Code)) (cn : Str) (cs : Scope) (a : Addr) (ccd : Value) (cl : List (Str × Addr)) (outer : List Env) (A₀ : Around) (h₀ : Heap) (L : Addr) (m : Str → Option Value) (s : Shared) (Q E : Value → Shared → Prop)
    (x l r : Int) (lo : Nat) (tx tl tr : Tok) (vs : List Value) (c : Nat),
    Below A₀ base outer h₀ → Fr h₀ L s.heap m → (hd.heap_1 w.params).In h₀ → News h₀ L s.heap ((D, W.listOf vs.toArray c) :: news) → Top p loose mean mg mb h₀ → cs.kind = .function →
    l = (lo : Int) → r = (lo : Int) + k → 0 ≤ x → x < 65536 ^ k → lo + k ≤ vs.length → vs.length ≤ 100 → dp + k < recursionLimit → un + 8 * k < cLine →
    (∀ (vs' : List Value) (c' : Nat) (h' : Heap) (tk' : Nat), vs'.length = vs.length → (∀ i, i < k → ∃ t, vs'[lo + i]? = some (.int (x / 65536 ^ i % 65536) t)) → (∀ j, j < lo ∨ lo + k ≤ j → vs'[j]? = vs[j]?) →
      Fr h₀ L h' m → News h₀ L h' ((D, W.listOf vs'.toArray c') :: news) → Q .none { s with heap := h', toks := tk' }) →
    wpAny (model Pg w) (ktrTop dp un gd cn cs L a ccd cl outer) (call (.ref f) [.int x tx, .int l tl, .int r tr]) Q E s
section
variable {w : World} {p : Program} {loose : List Str} {mean : ExcName → Option Value} {mg mb : Str → Option Value} {dp un : Nat} {gd : Option (List Code)} {cn : Str} {cs : Scope} {a : Addr} {ccd : Value} {cl : List (Str × Addr)} {outer : List Env} {A₀ : Around} {base h₀ : Heap} {L : Addr} {m : Str → Option Value} {news : List (Addr × Obj)} {s : Shared} {Q E : Value → Shared → Prop}
local macro_rules | `(tactic| k_all) => `(tactic| assumption)
local macro_rules | `(tactic| walk_at "binaryOp RShift int int") => `(tactic| (k_here; k_dflt (refine' PyProof.Rows.rshift_int (by first | decide | assumption) ?_)))
local macro_rules | `(tactic| walk_at "binaryOp LShift int int") => `(tactic| (k_here; k_dflt (refine' PyProof.Rows.lshift_int_small (by assumption) (by assumption) (by assumption) ?_)))
theorem l38 {a k : Nat} (h : a < k) : 3 + 8 * a ≤ 8 * k := by omega
theorem lokk {lo k k1 : Nat} (h : k1 < k) : (lo : Int) + k = ((lo + k1 : Nat) : Int) + ((k - k1 : Nat) : Int) := by omega
theorem dp38 {dp a k c : Nat} (h : a < k) (hd : dp + k < c) : dp + 1 + a < c := Nat.lt_of_le_of_lt (by rw [Nat.add_assoc, Nat.add_comm 1 a]; exact Nat.add_le_add_left h dp) hd
theorem un38 {un a k c : Nat} (h : a < k) (hd : un + 8 * k < c) : un + 3 + 8 * a < c := Nat.lt_of_le_of_lt (by rw [Nat.add_assoc]; exact Nat.add_le_add_left (l38 h) un) hd
theorem c_inner {f D c' cN cD cI : Addr} {qn name : Str} {params : Arguments} {body : List Stmt} {scope : Scope} {doc pm ctv : Value} {oc oN oD oI : Obj} {vsC : Array Value} {tq tn : Tok} (hin : innerDef w = some (params, body, scope)) (C : CodeHd base 42 38)
    (hf : (f, fnMade "inner" qn params body scope [("n", cN), ("inner", cI), ("a_digits", cD)] doc pm c' ctv) ∈ news) (hc : (c', oc) ∈ news) (hoc : oc.data = .fields vsC) (hvc : vsC[1]? = some (.str qn tq))
    (hN : (cN, oN) ∈ news) (hoN : oN.data = Data.cell (some (.int 16 tn))) (hD : (cD, oD) ∈ news) (hoD : oD.data = Data.cell (some (.ref D))) (hI : (cI, oI) ∈ news) (hoI : oI.data = Data.cell (some (.ref f)))
    (hoff : ∀ q ∈ news, q.1 ≠ D) :
    ∀ k, 0 < k → k ≤ 4 → InnerSpec w p loose mean mg mb base f D news k := by
  w_top off
  have h1 : some _ = some (params, body, scope) := hin
  cases h1
  intro k
  induction k using Nat.strongRecOn with
  | _ k ih =>
    intro hk0 hk4
    unfold InnerSpec
    intro dp un gd cn cs a ccd cl outer A₀ h₀ L m s Q E x l r lo tx tl tr vs c B F X N T hk hl hr hx0 hx1 hlo hvs hdp hun hret
    refine wpAny_call ?_
    k_dflt (refine' code_nest ?k1 ?k2 ?k3 ?k4 ?k5 ?kA ?kF ?kK ?k6 ?k7 ?k8 ?k9 ?kB ?_ ?c2 ?c3 ?c4 ?c5; (case kA => exact rfl); (case kF => exact rfl); (case kK => assumption); (case k1 => k_asm); (case k2 => k_asm); (case k3 => k_asm); (case k4 => k_asm); (case k5 => k_asm); (case k6 => exact List.mem_cons_of_mem _ hf); (case k7 => exact codeRec_news N (List.mem_cons_of_mem _ hc) hoc hvc); (case k8 => exact Nat.lt_of_le_of_lt (Nat.le_add_right _ _) hdp); (case k9 => exact BindsTo.of_eq rfl); (case c5 => decide); (case kB => exact locs rfl); (case c2 => exact rfl); (case c3 => exact rfl); (case c4 => exact rfl); k_whole; intro g' L' h' FG' F' N' B' X' T'; (try dsimp only); (try k_lift B'); (try k_fold))
    by_cases hk1 : k = 1
    · subst hk1
      rename Fr g' L' h' _ => F1
      k_steps
      · refine set_head (by k_asm) (by k_asm) hoff (by omega) (by omega) (by omega) ?_
        intro h2 F2 N2
        k_steps
        refine hret _ _ _ _ (List.length_set ..) ?_ ?_ (by k_asm) (by k_asm)
        · intro i hi
          have : i = 0 := by omega
          subst this
          have e1 : l.toNat = lo := by omega
          have e2 : x / 65536 ^ 0 % 65536 = x := by rw [Int.pow_zero, Int.ediv_one]; exact Int.emod_eq_of_lt hx0 (by simpa using hx1)
          exact ⟨tx, by rw [e1, e2, Nat.add_zero, List.getElem?_set_self (by omega)]⟩
        · intro j hj
          rw [List.getElem?_set_ne (by omega)]
      · exfalso; omega
    · obtain ⟨k1, hk1e⟩ : ∃ k1, k1 = k / 2 := ⟨_, rfl⟩
      have hm : (l + r).fdiv (2 ^ Int.toNat 1) = ((lo + k1 : Nat) : Int) := by
        rw [hl, hr, hk1e, Int.fdiv_eq_ediv_of_nonneg _ (by decide)]
        have : (2 : Int) ^ Int.toNat 1 = 2 := by decide
        rw [this]; omega
      have q1 : 0 < k1 := by omega
      have q3 : k1 < k := by omega
      clear hk1e
      have q4 : k - k1 < k := Nat.sub_lt hk0 q1
      have q5 := Nat.le_of_lt q3
      have hsz : ((l + r).fdiv (2 ^ Int.toNat 1) - l) * 16 = ((16 * k1 : Nat) : Int) := by rw [hm, hl]; omega
      have hs0 : 0 ≤ ((l + r).fdiv (2 ^ Int.toNat 1) - l) * 16 := by rw [hsz]; omega
      have hs1 : ((l + r).fdiv (2 ^ Int.toNat 1) - l) * 16 ≤ 1000000 := by rw [hsz]; exact Int.ofNat_le.2 (Nat.le_trans (Nat.mul_le_mul_left 16 (Nat.le_trans q5 hk4)) (by decide))
      have hsh : (((l + r).fdiv (2 ^ Int.toNat 1) - l) * 16).toNat = 16 * k1 := by rw [hsz, Int.toNat_natCast]
      have hU : x.fdiv (2 ^ (((l + r).fdiv (2 ^ Int.toNat 1) - l) * 16).toNat) = x / 65536 ^ k1 := by
        rw [hsh, p65, Int.fdiv_eq_ediv_of_nonneg _ (Int.le_of_lt (p65pos _))]
      have hp := p65pos k1
      have hU0 : 0 ≤ x / 65536 ^ k1 := Int.ediv_nonneg hx0 (Int.le_of_lt hp)
      have hU1 : x / 65536 ^ k1 < 65536 ^ (k - k1) := by
        apply Int.ediv_lt_of_lt_mul hp
        rw [← Int.pow_add]
        rw [Nat.sub_add_cancel q5]; exact hx1
      have hU2 : (x.fdiv (2 ^ (((l + r).fdiv (2 ^ Int.toNat 1) - l) * 16).toNat)).natAbs < 2 ^ 64 := by
        rw [hU]
        have h4 := p65_le (j := k - k1) (Nat.le_trans (Nat.sub_le _ _) hk4)
        omega
      have hLo : Builtin.bitXor x (x.fdiv (2 ^ (((l + r).fdiv (2 ^ Int.toNat 1) - l) * 16).toNat) * 2 ^ (((l + r).fdiv (2 ^ Int.toNat 1) - l) * 16).toNat) = x % 65536 ^ k1 := by
        rw [xor_high hx0, hsh, p65]
      have hLo0 : 0 ≤ x % 65536 ^ k1 := Int.emod_nonneg _ (by omega)
      have hLo1 : x % 65536 ^ k1 < 65536 ^ k1 := Int.emod_lt_of_pos _ hp
      have hm2 : (l + r).fdiv (2 ^ Int.toNat 1) = (lo : Int) + k1 := by rw [hm]; omega
      k_steps
      · exfalso; omega
      · have ih1 := ih k1 q3 q1 (Nat.le_trans q5 hk4)
        unfold InnerSpec at ih1
        refine' ih1 _ _ _ _ _ _ _ _ _ _ _ _ _ _ _ _ _ _ _ lo _ _ _ vs _ ?k1 ?k2 ?k3 ?k4 ?k5 ?k6 ?k7 ?k8 ?k9 ?k10 ?k11 ?k12 ?k13 ?k14 ?k15
        case k1 => k_asm
        case k2 => k_asm
        case k3 => k_asm
        case k4 => k_asm
        case k5 => k_asm
        case k6 => exact rfl
        case k7 => exact hl
        case k8 => exact hm2
        case k9 => rw [hLo]; exact hLo0
        case k10 => rw [hLo]; exact hLo1
        case k11 => exact Nat.le_trans (Nat.add_le_add_left q5 lo) hlo
        case k12 => exact hvs
        case k13 => exact dp38 q3 hdp
        case k14 => exact un38 q3 hun
        case k15 =>
          intro vs1 c1 h1 tk1 hv1 hd1 ho1 F1 N1
          rw [hLo] at hd1
          k_steps
          have ih2 := ih (k - k1) q4 (Nat.sub_pos_of_lt q3) (Nat.le_trans (Nat.sub_le _ _) hk4)
          unfold InnerSpec at ih2
          refine' ih2 _ _ _ _ _ _ _ _ _ _ _ _ _ _ _ _ _ _ _ (lo + k1) _ _ _ vs1 _ ?k1 ?k2 ?k3 ?k4 ?k5 ?k6 ?k7 ?k8 ?k9 ?k10 ?k11 ?k12 ?k13 ?k14 ?k15
          case k1 => k_asm
          case k2 => k_asm
          case k3 => k_asm
          case k4 => k_asm
          case k5 => k_asm
          case k6 => exact rfl
          case k7 => exact hm
          case k8 => rw [hr]; exact lokk q3
          case k9 => rw [hU]; exact hU0
          case k10 => rw [hU]; exact hU1
          case k11 => rw [Nat.add_assoc, Nat.add_sub_cancel' q5, hv1]; exact hlo
          case k12 => rw [hv1]; exact hvs
          case k13 => exact dp38 q4 hdp
          case k14 => exact un38 q4 hun
          case k15 =>
            intro vs2 c2 h2 tk2 hv2 hd2 ho2 F2 N2
            rw [hU] at hd2
            k_steps
            refine hret vs2 _ _ _ (hv2.trans hv1) ?_ ?_ (by k_asm) (by k_asm)
            · intro i hi
              by_cases hi1 : i < k1
              · obtain ⟨t, e⟩ := hd1 i hi1
                exact ⟨t, by rw [ho2 (lo + i) (.inl (Nat.add_lt_add_left hi1 lo)), e, dig_low hi1]⟩
              · obtain ⟨t, e⟩ := hd2 (i - k1) (Nat.sub_lt_sub_right (Nat.le_of_not_lt hi1) hi)
                have e2 : k1 + (i - k1) = i := Nat.add_sub_cancel' (Nat.le_of_not_lt hi1)
                have e1 : lo + k1 + (i - k1) = lo + i := by rw [Nat.add_assoc, e2]
                rw [e1] at e
                rw [dig_high, e2] at e
                exact ⟨t, e⟩
            · intro j hj
              rw [ho2 j (hj.imp (fun h => Nat.lt_of_lt_of_le h (Nat.le_add_right _ _)) (fun h => by rw [Nat.add_assoc, Nat.add_sub_cancel' q5]; exact h)), ho1 j (hj.imp id (fun h => Nat.le_trans (Nat.add_le_add_left q5 lo) h))]
theorem c_inner_at {f D c' cN cD cI : Addr} {qn : Str} {params : Arguments} {body : List Stmt} {scope : Scope} {doc pm ctv : Value} {oc oN oD oI : Obj} {vsC : Array Value} {tq tn : Tok} {hq : Heap} {od : Obj} (_N : News h₀ L hq ((D, od) :: news)) (hin : innerDef w = some (params, body, scope)) (C : CodeHd base 42 38)
    (hf : (f, fnMade "inner" qn params body scope [("n", cN), ("inner", cI), ("a_digits", cD)] doc pm c' ctv) ∈ news) (hc : (c', oc) ∈ news) (hoc : oc.data = .fields vsC) (hvc : vsC[1]? = some (.str qn tq))
    (hN : (cN, oN) ∈ news) (hoN : oN.data = Data.cell (some (.int 16 tn))) (hD : (cD, oD) ∈ news) (hoD : oD.data = Data.cell (some (.ref D))) (hI : (cI, oI) ∈ news) (hoI : oI.data = Data.cell (some (.ref f)))
    (hoff : ∀ q ∈ news, q.1 ≠ D) {k : Nat} (h0 : 0 < k) (h4 : k ≤ 4) : InnerSpec w p loose mean mg mb base f D news k :=
  c_inner (name := qn) hin C hf hc hoc hvc hN hoN hD hoD hI hoI hoff k h0 h4
theorem lift4 {h : Heap} {a b c d : Addr × Obj} (N : News h₀ L h (a :: b :: c :: d :: news)) : News h₀ L h (d :: a :: b :: c :: news) := fun q hq => N q (by
  simp only [List.mem_cons] at hq ⊢
  rcases hq with h | h | h | h | h
  · exact .inr (.inr (.inr (.inl h)))
  · exact .inl h
  · exact .inr (.inl h)
  · exact .inr (.inr (.inl h))
  · exact .inr (.inr (.inr (.inr h))))
end
end
end PartC7
section PartC6
open PySem PySem.W PySem.Spec PySem.Calls PyProof.Rows
section
section
variable {w : World} {p : Program} {loose : List Str} {mean : ExcName → Option Value} {mg mb : Str → Option Value} {dp un : Nat} {gd : Option (List Code)} {cn : Str} {cs : Scope} {a : Addr} {ccd : Value} {cl : List (Str × Addr)} {outer : List Env} {A₀ : Around} {base h₀ : Heap} {L : Addr} {m : Str → Option Value} {news : List (Addr × Obj)} {s : Shared} {Q E : Value → Shared → Prop}
local macro_rules | `(tactic| walk_at "binaryOp Mult ref int") => `(tactic| (k_here; k_dflt (refine' rep_mul (by k_asm) (by k_asm) (by is_list) (by assumption) (by omega) ?_); intro D' h' F' N' l1; (try k_lt l1); (try k_sweep)))
local macro_rules | `(tactic| walk_at "call builtin:len") => `(tactic| (k_here; k_dflt (refine' len_at (by is_list) (by ((try simp only [List.length_replicate]); first | assumption | omega)) ?_)))
local macro_rules | `(tactic| walk_at "exec FunctionDef") => `(tactic| (k_here; refine Stop.out ?_))
theorem c_dig {x : Int} {nd : Nat} {t1 t2 : Tok} {ps : Array Value} (hx : 0 < x) (hx2 : x < 65536 ^ nd) (hnd0 : 0 < nd) (hnd4 : nd ≤ 4) (hnd : (((Builtin.Int.intBits x : Nat) : Int) + 16 - 1).fdiv 16 = (nd : Int))
    (B : Below A₀ base outer h₀) (F : Fr h₀ L s.heap m) (X : (hd.heap_1 w.params).In h₀) (N : News h₀ L s.heap ((38, tabObj ps) :: news)) (T : Top p loose mean mg mb h₀) (hk : cs.kind = .function)
    (C : CodeHd base 42 38) (h38 : ∀ q ∈ news, @Ne Nat q.1 38) {news0 : List (Addr × Obj)} (hsub : ∀ q ∈ news0, q ∈ news) (hps : TabIn ⟨61, 4, 70, 28⟩ "_int2digits.<locals>.inner" ps news0)
    (hdp : dp + 8 < recursionLimit) (hun : un + 60 < cLine)
    (hret : ∀ (vs' : List Value) (D c' c'' : Addr) (ps' : Array Value) (oc : Obj) (h' : Heap) (tk' : Nat), vs'.length = nd → (∀ i, i < nd → ∃ t, vs'[i]? = some (.int (x / 65536 ^ i % 65536) t)) → (∀ q ∈ (38, tabObj ps) :: news, @LT.lt Nat _ q.1 D) → @Ne Nat c' 38 →
      TabIn ⟨61, 4, 70, 28⟩ "_int2digits.<locals>.inner" ps' [(c', oc)] → ((c', oc) ∈ news0 ∨ ∀ q ∈ news, @LT.lt Nat _ q.1 c') → Fr h₀ L h' m → News h₀ L h' ((D, W.listOf vs'.toArray c'') :: (38, tabObj ps') :: (c', oc) :: news) → Q (.ref D) { s with heap := h', toks := tk' }) :
    wpAny (model Pg w) (ktrTop dp un gd cn cs L a ccd cl outer) (call (.ref 43) [.int x t1, .int 16 t2]) Q E s := by
  w_top off
  refine wpAny_call ?_
  k_dflt ktn_open
  rename (_ ∧ AllLt _ _) => hl1
  have hN := ktn_ltOf hl1.2
  k_steps
  unfold Stop
  refine nestDef_K rfl rfl rfl ?_
  rename_i g L1 _ tk1 FG B1 X1 T1 oI oD0 oN dI dD0 dN l1 _ hl1' D _ hlD h2 oD F1 N1 dD
  replace dN : oN.data = Data.cell (some (.int 16 t2)) := dN
  clear dD0
  have C1 : CodeHd g 42 38 := C.keeps (Below.stays B1)
  refine nest_any (ps := ps) (news := (D, W.listOf (List.replicate nd (Value.int 0 tk1)).toArray 0) :: (l1, W.listOf #[Value.int 0 tk1] 0) :: (L1 + 1 + 1 + 1, oI) :: (L1 + 1 + 1, oD) :: (L1 + 1, oN) :: news) F1 (cb_drop N1 (by kcj_all)) T1 C1 rfl ?_ (fun q hq => by simp [hsub q hq]) hps rfl ?_
  · intro q hq
    simp only [List.mem_cons] at hq
    rcases hq with rfl | rfl | rfl | rfl | rfl | hq
    · dsimp only; omega
    · dsimp only; omega
    · dsimp only; omega
    · dsimp only; omega
    · dsimp only; omega
    · exact h38 q hq
  clear F1 N1
  intro f c' oc vsC tq ctv doc h3 tk3 F1 N1 hoc hvc lf lc lor
  have lfD : @LT.lt Nat _ D f := lf (D, W.listOf (List.replicate nd (Value.int 0 tk1)).toArray 0) (by simp)
  have lfL : @LT.lt Nat _ (L1 + 1 + 1 + 1) f := lf (L1 + 1 + 1 + 1, oI) (by simp)
  have hcD : @Ne Nat c' D ∧ @Ne Nat c' (L1 + 1 + 1 + 1) := by
    rcases lor with h | h
    · have : @LT.lt Nat _ c' L1 := hN _ (hsub _ h)
      exact ⟨Nat.ne_of_lt (by omega), Nat.ne_of_lt (by omega)⟩
    · have e1 := h (D, W.listOf (List.replicate nd (Value.int 0 tk1)).toArray 0) (by simp)
      have e2 := h (L1 + 1 + 1 + 1, oI) (by simp)
      exact ⟨Nat.ne_of_gt e1, Nat.ne_of_gt e2⟩
  k_steps
  rotate_left
  · exfalso; omega
  rename_i _ oI2 F2 N2 dI2 _
  have N3 := lift4 N2
  have ci := c_inner_at (w := w) (p := p) (loose := loose) (mean := mean) (mg := mg) (mb := mb) (k := nd) N3 rfl C (.tail _ (.head _)) (.tail _ (.tail _ (.head _))) hoc hvc (.tail _ (.tail _ (.tail _ (.tail _ (.tail _ (.tail _ (.head _))))))) dN (.tail _ (.tail _ (.tail _ (.tail _ (.tail _ (.head _)))))) dD (.tail _ (.tail _ (.tail _ (.tail _ (.head _))))) dI2 ?_ hnd0 hnd4
  · unfold InnerSpec at ci
    refine' ci _ _ _ _ _ _ _ _ _ _ _ _ _ _ _ _ _ _ _ 0 _ _ _ _ _ ?k1 ?k2 ?k3 ?k4 ?k5 ?k6 ?k7 ?k8 ?k9 ?k10 ?k11 ?k12 ?k13 ?k14 ?k15
    case k1 => k_asm
    case k2 => k_asm
    case k3 => k_asm
    case k4 => exact N3
    case k5 => k_asm
    case k6 => exact rfl
    case k7 => rfl
    case k8 => rw [List.length_replicate]; omega
    case k9 => omega
    case k10 => exact hx2
    case k11 => rw [List.length_replicate]; omega
    case k12 => rw [List.length_replicate]; omega
    case k13 => show dp + 1 + nd < recursionLimit; omega
    case k14 => show un + 3 + 8 * nd < cLine; omega
    case k15 =>
      intro vs1 c1 h1 tk1 hv1 hd1 ho1 F1 N1
      k_steps
      refine hret vs1 D c' _ _ oc _ _ (by rw [hv1, List.length_replicate]) (fun i hi => by have := hd1 i hi; rwa [Nat.zero_add] at this) ?_ lc (.inr ⟨c', oc, vsC, tq, rfl, .head _, hoc, hvc⟩) (lor.imp_right fun h q hq => h q (by simp [hq])) (by k_asm) (cb_drop (by k_asm) (by kcj_all))
      intro q hq
      rcases List.mem_cons.mp hq with rfl | hq
      · dsimp only; omega
      · have : @LT.lt Nat _ q.1 L1 := hN q hq
        omega
  · intro q hq
    simp only [List.mem_cons] at hq
    rcases hq with rfl | rfl | rfl | rfl | rfl | rfl | rfl | hq
    · refine neN ?_; dsimp only; omega
    · refine neN ?_; dsimp only; omega
    · refine neN ?_; dsimp only; omega
    · refine neN ?_; dsimp only; omega
    · refine neN ?_; dsimp only; omega
    · refine neN ?_; dsimp only; omega
    · refine neN ?_; dsimp only; omega
    · have : @LT.lt Nat _ q.1 L1 := hN q hq
      refine neN ?_; omega
end
end
end PartC6
section PartCW1
open PySem PySem.W PySem.Spec PySem.Calls PyProof.Rows
section
section
variable {prog : Program} {w : World} {A : Around} {E : Value → Shared → Prop} {s : Shared} {Q : Value → Shared → Prop} {h₀ : Heap} {L l : Addr} {m : Str → Option Value} {news : List (Addr × Obj)} {vs : List Value} {bs : List UInt64}
theorem sum_floats_K (hh : A.handled = none) (F : Fr h₀ L s.heap m) (N : News h₀ L s.heap news) (hls : s.heap.IsList l vs.toArray) (hf : PySem.Flt.FloatsAre vs bs) (h0 : bs.length ≠ 0)
    (h1 : ∀ h' tk t, Fr h₀ L h' m → News h₀ L h' news → Q (.float (PySem.Flt.sumOf bs) t) { s with heap := h', toks := tk }) :
    wpAny (model prog w) A (call (.builtin "sum") [.ref l]) Q E s := by
  refine PySem.Flt.call_sum_walkF (PySem.Flt.sumInts_map h0) (PySem.Flt.iter_list_ hls fun s₂ e st hfp hlI => ?_)
  subst e
  have hW := (Walks.list (prog := prog) (w := w) (A := A.in1) hh _ l hlI vs.toArray).toS
  have hlen : vs.toArray.size = (bs.map WData.float).length := by simpa using hf.length
  rw [hlen] at hW
  refine ⟨_, _, _, _, _, _, rfl, hW, st, hfp, fun i v hP => ?_, fun s' v hv hm => ?_⟩
  · obtain ⟨b, t, rfl, e⟩ := hf.at i v (by simpa using hP)
    exact ⟨.float b, by simp [e], .float b t⟩
  · obtain ⟨hp, g, d, tk, os⟩ := s'
    have kp := PySem.Flt.kept_iter hm.heap
    cases hv
    rename_i t0
    have := h1 hp tk t0 (F.grownK kp) (N.grown kp)
    have e1 : g = s.gens := hm.gens
    have e2 : d = s.drawn := hm.drawn
    have e3 : os = s.os := hm.os
    subst e1 e2 e3
    exact this
end
section
variable {prog : Program} {w : World} {A : Around} {h₀ : Heap} {L : Addr} {m : Str → Option Value} {env : Env} {elt : Expr} {x : Str} {scope : Scope} {cl : List (Str × Addr)} {s : Shared} {S : List (Addr × Obj) → Prop} {P : Nat → Value → Prop} {Fin : List Value → List (Addr × Obj) → Prop} {news : List (Addr × Obj)}
theorem comp_indG (Acc : Nat → List Value → List (Addr × Obj) → Prop) (N : Nat) (hS : ∀ i ys l, Acc i ys l → S l)
    (step : ∀ i v I oI C oC D m₂ h tk ys news (E' : Value → Shared → Prop), i < N → P i v → LCg.NsObj oC m₂ → m₂ x = some v → Fr h₀ L h m → News h₀ L h ((I, oI) :: (C, oC) :: (D, LCg.lst ys) :: news) → LCg.Off3 I C D news → ((@Ne Nat I C) ∧ (@Ne Nat I D) ∧ (@Ne Nat C D)) → Acc i ys news →
      wpAny (model prog w) A (eval elt (compEnvC scope cl C env)) (fun y s' => Stop (∃ h' tk' news', s' = { s with heap := h', toks := tk' } ∧ Fr h₀ L h' m ∧ News h₀ L h' ((I, oI) :: (C, oC) :: (D, LCg.lst ys) :: news') ∧ LCg.Off3 I C D news' ∧ Acc (i + 1) (ys ++ [y]) news')) E' { s with heap := h, toks := tk })
    (fin : ∀ ys news, Acc N ys news → Fin ys news) :
    ∀ (k i : Nat) (ys : List Value) (news : List (Addr × Obj)), i + k = N → Acc i ys news → LCg.CompRest prog w A h₀ L m env elt x scope cl s S P Fin k i ys news
  | 0, i, ys, news, hk, hy => LCg.CompRest.zero (fin ys news ((by omega : i = N) ▸ hy))
  | k + 1, i, ys, news, hk, hy => LCg.CompRest.succ fun v I oI C oC D m₂ h tk E' hP hC hx F Nw off ne =>
      wpAny_mono (step i v I oI C oC D m₂ h tk ys news E' (by omega) hP hC hx F Nw off ne hy) (fun y s' ⟨h', tk', news', e, F', N', off', hr⟩ => by
        subst e
        exact LCg.CompEnd.intro F' N' news' (fun _ h => h) off' (hS _ _ _ hr) (comp_indG Acc N hS step fin k (i + 1) (ys ++ [y]) news' (by omega) hr)) fun _ _ e => e
theorem src_rangeG {Fin : Shared → List Value → List (Addr × Obj) → Prop} {s₁ : Shared} (Acc : Nat → List Value → List (Addr × Obj) → Prop) {r : Addr} {a b : Int} {t u v : Tok} {n : Nat}
    (hh : A.handled = none) (F : Fr h₀ L s₁.heap m) (N : News h₀ L s₁.heap news) (hr : IsRange s₁.heap r a b 1 t u v) (ha : -100000 ≤ a) (ha' : a ≤ 100000) (hb1 : -100000 ≤ b) (hb2 : b ≤ 100000) (hn : n = (b - a).toNat)
    (step : ∀ i t I oI C oC D m₂ h tk ys news (E' : Value → Shared → Prop), i < n → LCg.NsObj oC m₂ → m₂ x = some (.int (a + (i : Int)) t) → Fr h₀ L h m → News h₀ L h ((I, oI) :: (C, oC) :: (D, LCg.lst ys) :: news) → LCg.Off3 I C D news → ((@Ne Nat I C) ∧ (@Ne Nat I D) ∧ (@Ne Nat C D)) → Acc i ys news →
      wpAny (model prog w) A (eval elt (compEnvC scope cl C env)) (fun y s' => Stop (∃ h' tk' news', s' = { s₁ with heap := h', toks := tk' } ∧ Fr h₀ L h' m ∧ News h₀ L h' ((I, oI) :: (C, oC) :: (D, LCg.lst ys) :: news') ∧ LCg.Off3 I C D news' ∧ Acc (i + 1) (ys ++ [y]) news')) E' { s₁ with heap := h, toks := tk })
    (h0 : Acc 0 [] news) (fin : ∀ g (ys : List Value) news, Acc n ys news → Fin { s₁ with heap := g } ys news) :
    LCg.CompSrc prog w A h₀ L m env elt x scope cl Fin (.ref r) s₁ :=
  LCg.CompSrc.range hh F N hr (small_one (by omega) (by omega) (by omega) (by omega)) (by rw [rangeSize_nat, hn]) (by rw [sizeLine_eq]; omega) fun g =>
    comp_indG Acc n (fun _ _ _ _ => trivial) (fun i v I oI C oC D m₂ h tk ys news E' hi hP hC hx F N off ne hy => by
      obtain ⟨t, rfl⟩ := hP
      exact step i t I oI C oC D m₂ h tk ys news E' hi hC hx F N off ne hy) (fun ys news hy => fin g ys news hy) n 0 [] news (by omega) h0
end
end
end PartCW1
section PartCW1b
open PySem PySem.W PySem.Spec PySem.Calls PyProof.Rows
section
section
variable {prog : Program} {w : World} {A : Around} {E : Value → Shared → Prop} {s : Shared} {h₀ : Heap} {L d : Addr} {m : Str → Option Value} {news : List (Addr × Obj)} {o : Obj}
theorem sorted_dict3 {v1 v2 v3 : Value} {Q : Value → Shared → Prop} (hh : A.handled = none) (F : Fr h₀ L s.heap m) (N : News h₀ L s.heap news) (hm : (d, o) ∈ news) (hD : o.IsDictOf (intKind prog w) [(1, v1), (2, v2), (3, v3)]) (lo : (d == sysModules) = false)
    (h : ∀ D h' tk u1 u2 u3 c, Fr h₀ L h' m → News h₀ L h' ((D, W.listOf #[.int 1 u1, .int 2 u2, .int 3 u3] c) :: news) → (∀ p ∈ news, p.1 < D) → Q (.ref D) { s with heap := h', toks := tk }) :
    wpAny (model prog w) A (call (.builtin "sorted") [.ref d]) Q E s := by
  obtain ⟨ep, ha⟩ := KdkAt.of hD
  refine kdu_sorted (kdl_dict (knd := intKind prog w) (kvs := [((1 : Int), v1), (2, v2), (3, v3)]) (ep := ep) lo) hh F N (ha.dictAt (N _ hm).1) (by rw [sizeLine_eq]; simp) fun D h' tk vs F' N' l1 hlen hvs => ?_
  have hI : IntsAre vs [1, 2, 3] := ints_of_get hlen fun i hi => by
    have hi' : i < vs.length := by rw [hlen]; exact hi
    obtain ⟨k, x, hx, hk⟩ := hvs i vs[i] (List.getElem?_eq_getElem hi')
    obtain ⟨t, e⟩ := PySem.Value.isInt_shape hk
    refine ⟨t, ?_⟩
    rw [List.getElem?_eq_getElem hi', e]
    have hi3 : i = 0 ∨ i = 1 ∨ i = 2 := by simp at hi; omega
    rcases hi3 with rfl | rfl | rfl <;> (cases hx; rfl)
  have h64 : vs.length < 64 := by rw [hlen]; simp
  refine sort_K F' N' (fun p hp => Nat.ne_of_lt (l1 p hp)) hI h64 fun h2 vs2 ns2 c F2 N2 hI2 hp2 hs2 => ?_
  have e3 := sorted3 hp2 hs2
  subst e3
  cases hI2 with | cons _ v1 h => cases h with | cons _ v2 h => cases h with | cons _ v3 h => cases h with | nil => exact h D h2 tk v1 v2 v3 c F2 N2 l1
end
end
end PartCW1b
section PartCW1c
open PySem PySem.W PySem.Spec PySem.Calls PyProof.Rows
section
structure PowOK (x : Int) : Prop where
  p1 : 0 < x
  g1 : x < 65536 ^ 2
  b1 : (((Builtin.Int.intBits x : Nat) : Int) + 16 - 1).fdiv 16 = ((2 : Nat) : Int)
  p2 : 0 < x * x
  g2 : x * x < 65536 ^ 3
  b2 : (((Builtin.Int.intBits (x * x) : Nat) : Int) + 16 - 1).fdiv 16 = ((3 : Nat) : Int)
  p3 : 0 < x * x * x
  g3 : x * x * x < 65536 ^ 4
  b3 : (((Builtin.Int.intBits (x * x * x) : Nat) : Int) + 16 - 1).fdiv 16 = ((4 : Nat) : Int)
noncomputable def Wt (y : Int) (n : Nat) (vs : List Value) : Prop := vs.length = n ∧ ∀ i, i < n → ∃ t, vs[i]? = some (.int (y / 65536 ^ i % 65536) t)
noncomputable def WAcc (x : Int) (base : List (Addr × Obj)) (i : Nat) (ys : List Value) (led : List (Addr × Obj)) : Prop :=
  ∃ ps extra, led = (38, tabObj ps) :: (base ++ extra) ∧ TabIn ⟨61, 4, 70, 28⟩ "_int2digits.<locals>.inner" ps (base ++ extra) ∧ (∀ q ∈ base ++ extra, @Ne Nat q.1 38) ∧ (∀ p ∈ extra, ∀ q ∈ base, @Ne Nat p.1 q.1) ∧ ys.length = i ∧
    ∀ j, j < i → ∃ D vs c, ys[j]? = some (.ref D) ∧ (D, W.listOf vs.toArray c) ∈ extra ∧ Wt (pw x (j + 1)) (j + 2) vs
theorem WAcc.step {x : Int} {base extra : List (Addr × Obj)} {i : Nat} {ys : List Value} {ps' : Array Value} {D c' : Addr} {oc : Obj} {vs' : List Value} {c : Nat} 
    (h38 : ∀ q ∈ base ++ extra, @Ne Nat q.1 38) (hb : ∀ p ∈ extra, ∀ q ∈ base, @Ne Nat p.1 q.1) (hl : ys.length = i) (hy : ∀ j, j < i → ∃ D vs c, ys[j]? = some (.ref D) ∧ (D, W.listOf vs.toArray c) ∈ extra ∧ Wt (pw x (j + 1)) (j + 2) vs)
    (hD : @Ne Nat D 38) (hc : @Ne Nat c' 38) (hps : TabIn ⟨61, 4, 70, 28⟩ "_int2digits.<locals>.inner" ps' [(c', oc)]) (hltD : ∀ q ∈ base ++ extra, @LT.lt Nat _ q.1 D) (hor : (c', oc) ∈ base ++ extra ∨ ∀ q ∈ base ++ extra, @LT.lt Nat _ q.1 c') (hw : Wt (pw x (i + 1)) (i + 2) vs') :
    ∃ news', (∀ p ∈ news', p ∈ (38, tabObj ps') :: (D, W.listOf vs'.toArray c) :: (c', oc) :: (base ++ extra)) ∧ WAcc x base (i + 1) (ys ++ [.ref D]) news' := by
  have hyy : ∀ ex2 : List (Addr × Obj), (∀ p ∈ extra, p ∈ ex2) → (D, W.listOf vs'.toArray c) ∈ ex2 → ∀ j, j < i + 1 → ∃ D2 vs2 c2, (ys ++ [Value.ref D])[j]? = some (.ref D2) ∧ (D2, W.listOf vs2.toArray c2) ∈ ex2 ∧ Wt (pw x (j + 1)) (j + 2) vs2 := by
    intro ex2 hs hm j hj
    rcases Nat.lt_or_ge j i with h | h
    · obtain ⟨D2, vs2, c2, e, hm2, hw2⟩ := hy j h
      exact ⟨D2, vs2, c2, by rw [List.getElem?_append_left (by omega)]; exact e, hs _ hm2, hw2⟩
    · have : j = i := by omega
      subst this
      exact ⟨D, vs', c, by rw [List.getElem?_append_right (by omega), hl, Nat.sub_self]; rfl, hm, hw⟩
  rcases hor with hor | hor
  · refine ⟨(38, tabObj ps') :: (base ++ ((D, W.listOf vs'.toArray c) :: extra)), fun p hp => ?_, ps', (D, W.listOf vs'.toArray c) :: extra, rfl, hps.mono rfl (fun p hp => ?_), fun q hq => ?_, fun p hp q hq => ?_, by simp [hl], hyy _ (fun p hp => .tail _ hp) (.head _)⟩
    · simp only [List.mem_cons, List.mem_append] at hp ⊢
      rcases hp with h | h | h | h <;> simp [h]
    · rw [List.mem_singleton.mp hp]
      simp only [List.mem_append, List.mem_cons] at hor ⊢
      rcases hor with h | h <;> simp [h]
    · simp only [List.mem_append, List.mem_cons] at hq
      rcases hq with h | rfl | h
      · exact h38 q (List.mem_append_left _ h)
      · exact hD
      · exact h38 q (List.mem_append_right _ h)
    · rcases List.mem_cons.mp hp with rfl | hp
      · exact Nat.ne_of_gt (hltD q (List.mem_append_left _ hq))
      · exact hb p hp q hq
  · refine ⟨(38, tabObj ps') :: (base ++ ((D, W.listOf vs'.toArray c) :: (c', oc) :: extra)), fun p hp => ?_, ps', (D, W.listOf vs'.toArray c) :: (c', oc) :: extra, rfl, hps.mono rfl (fun p hp => ?_), fun q hq => ?_, fun p hp q hq => ?_, by simp [hl], hyy _ (fun p hp => .tail _ (.tail _ hp)) (.head _)⟩
    · simp only [List.mem_cons, List.mem_append] at hp ⊢
      rcases hp with h | h | h | h | h <;> simp [h]
    · rw [List.mem_singleton.mp hp]
      simp
    · simp only [List.mem_append, List.mem_cons] at hq
      rcases hq with h | rfl | rfl | h
      · exact h38 q (List.mem_append_left _ h)
      · exact hD
      · exact hc
      · exact h38 q (List.mem_append_right _ h)
    · rcases List.mem_cons.mp hp with rfl | hp
      · exact Nat.ne_of_gt (hltD q (List.mem_append_left _ hq))
      · rcases List.mem_cons.mp hp with rfl | hp
        · exact Nat.ne_of_gt (hor q (List.mem_append_left _ hq))
        · exact hb p hp q hq
theorem off_dig {I C D D5 c' : Addr} {o1 o2 o5 oc : Obj} {rest : List (Addr × Obj)} (h : LCg.Off3 I C D ((38, o1) :: rest)) (h5 : (@LT.lt Nat _ I D5) ∧ (@LT.lt Nat _ C D5) ∧ (@LT.lt Nat _ D D5)) (hc : (c', oc) ∈ rest ∨ ((@LT.lt Nat _ I c') ∧ (@LT.lt Nat _ C c') ∧ (@LT.lt Nat _ D c'))) :
    LCg.Off3 I C D ((38, o2) :: (D5, o5) :: (c', oc) :: rest) :=
  ⟨h.1, ⟨Nat.ne_of_gt h5.1, Nat.ne_of_gt h5.2.1, Nat.ne_of_gt h5.2.2⟩, hc.elim (fun m => h.2.mem _ m) fun q => ⟨Nat.ne_of_gt q.1, Nat.ne_of_gt q.2.1, Nat.ne_of_gt q.2.2⟩, h.2⟩
section
variable {w : World} {p : Program} {loose : List Str} {mean : ExcName → Option Value} {mg mb : Str → Option Value} {dp un : Nat} {gd : Option (List Code)} {cn : Str} {cs : Scope} {a : Addr} {ccd : Value} {cl : List (Str × Addr)} {outer : List Env} {A₀ : Around} {base h₀ : Heap} {L : Addr} {m : Str → Option Value} {news : List (Addr × Obj)} {s : Shared} {Q E : Value → Shared → Prop}
theorem c_dig3 {x : Int} {nd : Nat} {t1 t2 : Tok} {ps : Array Value} {I C' D₀ : Addr} {oI oC oD : Obj} {rest : List (Addr × Obj)} (hx : 0 < x) (hx2 : x < 65536 ^ nd) (hnd : (((Builtin.Int.intBits x : Nat) : Int) + 16 - 1).fdiv 16 = (nd : Int)) (hnd0 : 0 < nd) (hnd4 : nd ≤ 4)
    (B : Below A₀ base outer h₀) (F : Fr h₀ L s.heap m) (X : (hd.heap_1 w.params).In h₀) (N : News h₀ L s.heap ((I, oI) :: (C', oC) :: (D₀, oD) :: (38, tabObj ps) :: rest)) (T : Top p loose mean mg mb h₀) (hk : cs.kind = .function)
    (C : CodeHd base 42 38) (h38 : ∀ q ∈ rest, @Ne Nat q.1 38) (off : LCg.Off3 I C' D₀ ((38, tabObj ps) :: rest)) (hps : TabIn ⟨61, 4, 70, 28⟩ "_int2digits.<locals>.inner" ps rest)
    (hdp : dp + 8 < recursionLimit) (hun : un + 60 < cLine)
    (hret : ∀ (vs' : List Value) (D c' c'' : Addr) (ps' : Array Value) (oc : Obj) (h' : Heap) (tk' : Nat), Wt x nd vs' → @Ne Nat D 38 → @Ne Nat c' 38 →
      TabIn ⟨61, 4, 70, 28⟩ "_int2digits.<locals>.inner" ps' [(c', oc)] → (∀ q ∈ rest, @LT.lt Nat _ q.1 D) → ((c', oc) ∈ rest ∨ ∀ q ∈ rest, @LT.lt Nat _ q.1 c') → LCg.Off3 I C' D₀ ((38, tabObj ps') :: (D, W.listOf vs'.toArray c'') :: (c', oc) :: rest) → Fr h₀ L h' m → News h₀ L h' ((I, oI) :: (C', oC) :: (D₀, oD) :: (38, tabObj ps') :: (D, W.listOf vs'.toArray c'') :: (c', oc) :: rest) → Q (.ref D) { s with heap := h', toks := tk' }) :
    wpAny (model Pg w) (ktrTop dp un gd cn cs L a ccd cl outer) (call (.ref 43) [.int x t1, .int 16 t2]) Q E s := by
  refine c_dig (news := (I, oI) :: (C', oC) :: (D₀, oD) :: rest) (news0 := rest) hx hx2 hnd0 hnd4 hnd B F X (fun q hq => N q ?_) T hk C (fun q hq => ?_) (fun q hq => .tail _ (.tail _ (.tail _ hq))) hps hdp hun fun vs' D c' c'' ps' oc h' tk' e1 e2 hlt hc hp hor F' N' => ?_
  · simp only [List.mem_cons] at hq ⊢
    rcases hq with h | h | h | h | h <;> simp [h]
  · simp only [List.mem_cons] at hq
    rcases hq with rfl | rfl | rfl | h
    · exact Ne.symm off.1.1
    · exact Ne.symm off.1.2.1
    · exact Ne.symm off.1.2.2
    · exact h38 q h
  · have q1 : @LT.lt Nat _ I D := hlt (I, oI) (by simp)
    have q2 : @LT.lt Nat _ C' D := hlt (C', oC) (by simp)
    have q3 : @LT.lt Nat _ D₀ D := hlt (D₀, oD) (by simp)
    have q4 : @LT.lt Nat _ 38 D := hlt (38, tabObj ps) (by simp)
    refine hret vs' D c' c'' ps' oc h' tk' ⟨e1, e2⟩ (Nat.ne_of_gt q4) hc hp (fun q hq => hlt q (by simp [hq])) (hor.imp_right fun h q hq => h q (by simp [hq])) (off_dig off ⟨q1, q2, q3⟩ (hor.imp_right fun h => ⟨h (I, oI) (by simp), h (C', oC) (by simp), h (D₀, oD) (by simp)⟩)) F' (fun q hq => N' q ?_)
    simp only [List.mem_cons] at hq ⊢
    rcases hq with h | h | h | h | h | h | h <;> simp [h]
end
end
end PartCW1c
section PartCW1d
open PySem PySem.W PySem.Spec PySem.Calls PyProof.Rows
section
section
variable {prog : Program} {w : World} {A : Around} {E : Value → Shared → Prop} {s : Shared} {env : Env} {h₀ : Heap} {xn : Str} {px : Pos} {body : List Stmt} {Q : Flow → Shared → Prop} {m : Str → Option Value} {news : List (Addr × Obj)}
noncomputable def LoopC (prog : Program) (w : World) (A : Around) (h₀ : Heap) (env : Env) (xn : Str) (px : Pos) (body : List Stmt) (Q : Flow → Shared → Prop) (E : Value → Shared → Prop) (it : Value) (s₂ : Shared) : Prop :=
  ∃ (I : Addr) (a : Int) (n : Nat) (m : Str → Option Value) (news : List (Addr × Obj)) (J : Nat → (Str → Option Value) → List (Addr × Obj) → Prop), it = .ref I ∧ A.handled = none ∧ env.locals ≠ I ∧ h₀.get? I = none ∧ (∀ p ∈ news, @Ne Nat p.1 I) ∧
    IsRangeIter s₂.heap I (a + ((0 : Nat) : Int) * 1) ((n : Int) - ((0 : Nat) : Int)) 1 ∧ Fr h₀ env.locals s₂.heap m ∧ News h₀ env.locals s₂.heap news ∧ J 0 m news ∧
    (∀ i u m₁ news₁ h tk oI, i < n → J i m₁ news₁ → (∀ p ∈ news₁, @Ne Nat p.1 I) → Fr h₀ env.locals h m₁ → News h₀ env.locals h ((I, oI) :: news₁) →
      wpAny (model prog w) A (assign (.Name xn px) env (.int (a + (i : Int)) u)) (fun _ s₃ => wpAny (model prog w) A (execs body env) (fun f s' => Stop (ForPost h₀ env.locals s₂ I oI (J (i + 1)) Q f s')) E s₃) E { s₂ with heap := h, toks := tk }) ∧
    (∀ h' tk m' news', Fr h₀ env.locals h' m' → News h₀ env.locals h' news' → J n m' news' → Q .next { s₂ with heap := h', toks := tk })
theorem For_C {pos : Pos} {iter : Expr} (h : wpAny (model prog w) A (eval iter env) (fun xv s₁ => wpAny (model prog w) A (pyIter xv) (fun it s₂ => LoopC prog w A h₀ env xn px body Q E it s₂) E s₁) E s)
    (hs : ∀ x, foldedSetIterable iter env x = pure x := by intro _; rfl)
    (hE : PassesOwn (model prog w) A env E := by passes_own) :
    wpAny (model prog w) A (exec (.For (.Name xn px) iter body [] pos) env) Q E s := by
  refine wpAny_For (wpAny_mono h (fun xv s₁ h₁ => wpAny_mono h₁ (fun it s₂ h₂ => ?_) fun _ _ e => e) fun _ _ e => e) hs
  obtain ⟨I, a, n, m, news, J, rfl, hh, hLI, hI0, hoff, hst, F, N, h0, step, fin⟩ := h₂
  have hW := LCg.range_walks (prog := prog) (w := w) (A := A) (I := I) hh a n
  refine codeAny_forLoop
    (fun k s' => ∃ h' tk m' news' i, s' = { s₂ with heap := h', toks := tk } ∧ IsRangeIter h' I (a + (i : Nat) * 1) ((n : Int) - (i : Nat)) 1 ∧ Fr h₀ env.locals h' m' ∧ News h₀ env.locals h' news' ∧ (∀ p ∈ news', @Ne Nat p.1 I) ∧ J i m' news' ∧ i ≤ n ∧ k = n + 1 - i) ?_ (n + 1)
    ⟨s₂.heap, s₂.toks, m, news, 0, rfl, hst, F, N, hoff, h0, Nat.zero_le _, rfl⟩
  rintro k s' ⟨h', tk, m', news', i, rfl, hst', F', N', hnw', hJ, hi, rfl⟩
  have next : ∀ h₁ : Heap, (∀ b o, b ∉ [I] → h'.get? b = some o → h₁.get? b = some o) → Fr h₀ env.locals h₁ m' ∧ News h₀ env.locals h₁ news' := fun h₁ hk₁ =>
    ⟨LCg.fr_but F' hk₁ hLI hI0, LCg.news_but N' hk₁ hnw'⟩
  by_cases hlt : i < n
  · refine hW.item i _ _ _ hlt hst' fun v h₁ tk₁ hP hst₁ hk₁ => ?_
    obtain ⟨t, rfl⟩ := hP
    obtain ⟨F₁, N₁⟩ := next h₁ hk₁
    have hI1 : ∃ oI, h₁.get? I = some oI := ⟨_, hst₁⟩
    obtain ⟨oI, heI⟩ := hI1
    have N₂ : News h₀ env.locals h₁ ((I, oI) :: news') := fun p hp => by
      rcases List.mem_cons.mp hp with e | hp
      · rw [e]; exact ⟨heI, Ne.symm hLI, hI0⟩
      · exact N₁ p hp
    refine wpAny_passesOwn hE (wpAny_mono (step i t m' news' h₁ tk₁ oI hlt hJ hnw' F₁ N₂) (fun _ s₃ h₃ => wpAny_passesOwn hE (wpAny_mono h₃ (fun f s₄ h₄ => ?_) fun _ _ e => e)) fun _ _ e => e)
    have back : ForNext h₀ env.locals s₂ I oI (J (i + 1)) s₄ → ∃ k', k' < n + 1 - i ∧ ∃ h' tk m' news' i, s₄ = { s₂ with heap := h', toks := tk } ∧ IsRangeIter h' I (a + (i : Nat) * 1) ((n : Int) - (i : Nat)) 1 ∧ Fr h₀ env.locals h' m' ∧ News h₀ env.locals h' news' ∧ (∀ p ∈ news', @Ne Nat p.1 I) ∧ J i m' news' ∧ i ≤ n ∧ k' = n + 1 - i := by
      rintro ⟨h₅, tk₅, m₅, news₅, rfl, F₅, N₅, ho, j⟩
      refine ⟨n + 1 - (i + 1), by omega, h₅, tk₅, m₅, news₅, i + 1, rfl, ?_, F₅, fun p hp => N₅ p (.tail _ hp), ho, j, hlt, rfl⟩
      exact LCg.range_st (h₀ := h₀) (L := env.locals) (i + 1) h₁ h₅ oI [] hst₁ heI (N₅ _ (.head _)).1 F₅.keep (fun _ h => nomatch h) trivial
    cases f with
    | ret v => exact h₄
    | brk => exact h₄
    | cont => exact back h₄
    | next => exact back h₄
  · have hin : i = n := by omega
    subst hin
    refine hW.done _ _ _ hst' fun h₁ tk₁ hk₁ => wpAny_execs_nil ?_
    obtain ⟨F₁, N₁⟩ := next h₁ hk₁
    exact fin h₁ tk₁ m' news' F₁ N₁ hJ
theorem for_rangeC {r : Addr} {a b : Int} {t₀ u₀ v₀ : Tok} {n : Nat} (J : Nat → (Str → Option Value) → List (Addr × Obj) → Prop)
    (hh : A.handled = none) (F : Fr h₀ env.locals s.heap m) (N : News h₀ env.locals s.heap news) (hr : IsRange s.heap r a b 1 t₀ u₀ v₀) (ha : -100000 ≤ a) (ha' : a ≤ 100000) (hb1 : -100000 ≤ b) (hb2 : b ≤ 100000) (hn : n = (b - a).toNat) (h0 : J 0 m news)
    (step : ∀ i u m₁ news₁ h tk I oI, i < n → J i m₁ news₁ → (∀ p ∈ news₁, @Ne Nat p.1 I) → (∀ p ∈ news, @LT.lt Nat _ p.1 I) → Fr h₀ env.locals h m₁ → News h₀ env.locals h ((I, oI) :: news₁) →
      wpAny (model prog w) A (assign (.Name xn px) env (.int (a + (i : Int)) u)) (fun _ s₃ => wpAny (model prog w) A (execs body env) (fun f s' => Stop (ForPost h₀ env.locals s I oI (J (i + 1)) Q f s')) E s₃) E { s with heap := h, toks := tk })
    (fin : ∀ h' tk m' news', Fr h₀ env.locals h' m' → News h₀ env.locals h' news' → J n m' news' → Q .next { s with heap := h', toks := tk }) :
    wpAny (model prog w) A (pyIter (.ref r)) (fun it s₂ => LoopC prog w A h₀ env xn px body Q E it s₂) E s := by
  refine wpAny_pyIter_range hr (small_one (by omega) (by omega) (by omega) (by omega)) ?_
  have hsz : Builtin.Range.rangeSize a b 1 = (n : Int) := by rw [rangeSize_nat, hn]
  refine ⟨_, a, n, m, news, J, rfl, hh, (fun e => absurd F.ns.lt (e ▸ Nat.lt_irrefl _)), next_is_new F, (fun p hp => Nat.ne_of_lt (Heap.lt_size (N p hp).1)), (by show IsRangeIter _ _ _ _ _; rw [hsz]; simpa using Heap.get?_push_size _ rfl), (F.push _), (fun p hp => ⟨Heap.get?_push_of_some _ (N p hp).1, (N p hp).2⟩), h0, ?_, fin⟩
  intro i u m₁ news₁ h tk oI hi hJ ho F₁ N₁
  exact step i u m₁ news₁ h tk _ oI hi hJ ho (fun p hp => Heap.lt_size (N p hp).1) F₁ N₁
end
end
end PartCW1d
section PartCW2
open PySem PySem.W PySem.Spec PySem.Calls PyProof.Rows
section
theorem floats_of_get : ∀ {bs : List UInt64} {vs : List Value}, vs.length = bs.length → (∀ i, i < bs.length → ∃ t, vs[i]? = some (.float (bs.getD i 0) t)) → PySem.Flt.FloatsAre vs bs
  | [], [], _, _ => .nil
  | b :: bs, v :: vs, hl, h => by
    obtain ⟨t, e⟩ := h 0 (by simp)
    have e' : v = .float b t := by simpa using e
    subst e'
    refine .cons b t (floats_of_get (by simpa using hl) fun i hi => ?_)
    obtain ⟨t', e'⟩ := h (i + 1) (by simpa using hi)
    exact ⟨t', by simpa using e'⟩
  | [], _ :: _, hl, _ => by simp at hl
  | _ :: _, [], hl, _ => by simp at hl
theorem ne_absd {x : Option Ordering} (h : (x == some Ordering.eq) = true) (k : (x != some Ordering.eq) = true) : False := by
  rw [bne, h] at k
  cases k
theorem range_getD {n i : Nat} (f : Nat → UInt64) (h : i < n) : ((List.range n).map f).getD i 0 = f i := by
  rw [List.getD_eq_getElem?_getD, List.getElem?_map, List.getElem?_range h]; rfl
noncomputable def Sml (z : Int) : Prop := z.natAbs < 2 ^ 1023
theorem dgt_le (x : Int) (i j : Nat) : Sml (dgt x i j) := by
  have h1 : 0 ≤ dgt x i j := Int.emod_nonneg _ (by decide)
  have h2 : dgt x i j < 65536 := Int.emod_lt_of_pos _ (by decide)
  have h3 : (dgt x i j).natAbs < 65536 := by omega
  exact Nat.lt_trans h3 (by decide +kernel)
noncomputable def WgJ (L1 Dw l3 : Addr) (wl : List Value) (tk : Tok) (oWt o4 : Obj) (ll lr : Addr) (nn : List (Addr × Obj)) (_i : Nat) (m : Str → Option Value) (led : List (Addr × Obj)) : Prop :=
  ∃ ok v, led = (L1 + 1 + 1 + 1, ok) :: (Dw, PySem.W.listOf wl.toArray 0) :: (l3, PySem.W.listOf #[Value.int 1 tk] 0) :: (L1 + 1 + 1 + 1 + 1, oWt) :: (L1 + 1, o4) :: nn ∧ ok.data = Data.cell v ∧ m "left" = some (.ref ll) ∧ m "right" = some (.ref lr)
theorem news_map {h₀ h : Heap} {L : Addr} {a b c : Addr × Obj} {l l' : List (Addr × Obj)} (N : News h₀ L h (a :: b :: c :: l)) (k : ∀ p ∈ l', p ∈ l) : News h₀ L h (a :: b :: c :: l') := fun p hp => N p (by
  simp only [List.mem_cons] at hp ⊢
  rcases hp with h | h | h | h
  · simp [h]
  · simp [h]
  · simp [h]
  · simp [k p h])
theorem isListA {h₀ h : Heap} {L a : Addr} {news : List (Addr × Obj)} {items : Array Value} {n : Nat} (N : News h₀ L h news) (hm : (a, PySem.W.listOf items n) ∈ news) : h.IsList a items := News.isList N hm
section
variable {w : World} {p : Program} {loose : List Str} {mean : ExcName → Option Value} {mg mb : Str → Option Value} {dp un : Nat} {gd : Option (List Code)} {cn : Str} {cs : Scope} {a : Addr} {ccd : Value} {cl : List (Str × Addr)} {outer : List Env} {A₀ : Around} {base h₀ : Heap} {L : Addr} {m : Str → Option Value} {news : List (Addr × Obj)} {s : Shared} {Q E : Value → Shared → Prop}
local macro_rules | `(tactic| kcj_all) => `(tactic| first | (with_reducible kcj_in) | kcj_in)
local macro_rules | `(tactic| is_list) => `(tactic| exact News.isList (by k_asm) (by first | k_mem | (refine mem_of ?_; repeat (first | assumption | refine List.mem_cons_of_mem _ ?_))))
local macro_rules | `(tactic| is_list) => `(tactic| exact isListA (by k_asm) (by with_reducible kcj_m))
local macro_rules | `(tactic| k_all) => `(tactic| assumption)
local macro_rules | `(tactic| k_all) => `(tactic| with_reducible assumption)
local macro_rules | `(tactic| walk_at "CompSrc") => `(tactic| (k_here; refine Stop.out ?_))
local macro_rules | `(tactic| walk_at "subscriptTail Name Name ref int") => `(tactic| (k_here; k_dflt (refine item_intTab (by k_tabat) (by first | with_reducible assumption | rfl) ?_); intro v' hv'; kt_l_open hv'))
local macro_rules | `(tactic| walk_at "subscriptTail Name Name ref int") => `(tactic| (k_here; k_dflt (refine' item_at (by exact isListA (by k_asm) (by with_reducible kcj_m)) (by omega) (by omega) (by assumption) ?_)))
local macro_rules | `(tactic| walk_at "subscriptTail Subscript Name Name Name ref int") => `(tactic| (k_here; k_dflt (refine' item_at (by exact isListA (by k_asm) (by with_reducible kcj_m)) (by omega) (by omega) (by assumption) ?_)))
local macro_rules | `(tactic| walk_at "subscriptTail Name BinOp ref int") => `(tactic| (k_here; k_dflt (refine' item_at (by exact isListA (by k_asm) (by with_reducible kcj_m)) (by omega) (by omega) (by assumption) ?_)))
local macro_rules | `(tactic| walk_at "binaryOp Mult int float") => `(tactic| (k_here; k_dflt (refine' mul_if_fits (by exact (‹Sml _› : _)) ?_)))
local macro_rules | `(tactic| walk_at "binaryOp Add ref ref") => `(tactic| (k_here; k_dflt (refine' add_L (by k_asm) (by k_asm) (by is_list) (by is_list) (by assumption) ?_); intro D' h' F' N' l1; (try k_lt l1); (try k_sweep)))
local macro_rules | `(tactic| walk_at "exec For Name Call cons nil") => `(tactic| (k_here; refine Stop.out ?_))
local macro_rules | `(tactic| walk_at "pyIter ref") => `(tactic| (k_here; refine Stop.out ?_))
local macro_rules | `(tactic| walk_at "eval ListComp") => `(tactic| (k_here; k_dflt (refine LCg.ListComp_U (F₀ := by k_asm) (by with_unfolding_all rfl) (by decide) (by rfl) (by decide) (by rfl) ?_)))
local macro_rules | `(tactic| walk_at "call builtin:sorted") => `(tactic| (k_here; k_dflt (refine' sorted_dict3 (by exact rfl) (by k_asm) (by k_asm) (by k_mem) (by with_reducible assumption) (by assumption) ?_); intro D' h' tk' u1 u2 u3 c' F' N' l1; (try k_lt l1)))
local macro_rules | `(tactic| walk_at "call builtin:sum") => `(tactic| (k_here; k_dflt (refine' sum_floats_K ?k0 ?F ?N ?k1 ?k2 ?k3 ?_; (case F => k_asm); (case N => k_asm); (case k0 => rfl); (case k1 => is_list); (case k2 => assumption); (case k3 => assumption)); intro h9 tk9 t9 F9 N9))
local macro_rules | `(tactic| walk_at "call ref") => `(tactic| (k_here; (with_reducible show wpAny _ _ (call (Value.ref 43) _ _) _ _ _); (with_unfolding_all refine' c_dig3 ?h1 ?h2 ?h3 ?h4 ?h5 ?k1 ?k2 ?k3 ?k4 ?k5 ?k6 ?C ?p ?o ?t ?k8 ?k9 ?_; (case h1 => assumption); (case h2 => assumption); (case h3 => assumption); (case h4 => decide); (case h5 => decide); walk_at "cK6"; (case C => assumption); (case p => assumption); (case o => assumption); (case t => assumption); (case k8 => exact lt_le (b := 9) (k := 10) (by decide) (by assumption)); (case k9 => exact lt_le (b := 63) (k := 140) (by decide) (by assumption))); intro v9 D9 c9 c8 p9 oc9 h9 tk9 w9 n9 nc9 tp9 lt9 or9 of9 F9 N9; (try dsimp only)))
local macro_rules | `(tactic| walk_at "call ref") => `(tactic| (k_here; (with_reducible show wpAny _ _ (call (Value.ref 36) _ _) _ _ _); (with_unfolding_all refine' c_pow ?h1 ?h2 ?k1 ?k2 ?k3 ?k4 ?k5 ?k6 ?k8 ?k9 ?_; (case h1 => assumption); (case h2 => assumption); walk_at "cK6"; (case k8 => exact lt_le (b := 4) (k := 10) (by decide) (by assumption)); (case k9 => exact lt_le (b := 63) (k := 140) (by decide) (by assumption))); intro d9 o9 ta9 tb9 tc9 h9 tk9 dr9 hd9 hs9 l9 F9 N9; (try k_lt l9); (try dsimp only)))
theorem c_weighed {lp ll lr : Addr} {vp vl vr : List Value} {bp bl br : List UInt64} {np nl nr : Nat} {sd : Int} {ts : Tok} {ps : Array Value} (hs0 : 0 ≤ sd) (hs1 : sd ≤ 30) (HP : PowOK (32 - sd + sd * 2 ^ Int.toNat 16)) (HW : WeighOK (32 - sd + sd * 2 ^ Int.toNat 16) bp bl br)
    (B : Below A₀ base outer h₀) (F : Fr h₀ L s.heap m) (X : (hd.heap_1 w.params).In h₀) (N : News h₀ L s.heap ((38, tabObj ps) :: news)) (T : Top p loose mean mg mb h₀) (hk : cs.kind = .function)
    (C : CodeHd base 42 38) (h38 : ∀ q ∈ news, @Ne Nat q.1 38) (hps : TabIn ⟨61, 4, 70, 28⟩ "_int2digits.<locals>.inner" ps news)
    (mp : (lp, W.listOf vp.toArray np) ∈ news) (ml : (ll, W.listOf vl.toArray nl) ∈ news) (mr : (lr, W.listOf vr.toArray nr) ∈ news) (fp : Fls vp bp) (fl : Fls vl bl) (fr : Fls vr br) (zp : bp.length = 4) (zl : bl.length = 4) (zr : br.length = 4)
    (hdp : dp + 10 < recursionLimit) (hun : un + 140 < cLine)
    (hret : ∀ (ps' : Array Value) (h' : Heap) (tk' : Nat) (dr' : Drawn), Fr h₀ L h' m → News h₀ L h' ((38, tabObj ps') :: news) → Q (.bool true) { s with heap := h', toks := tk', drawn := dr' }) :
    wpAny (model Pg w) (ktrTop dp un gd cn cs L a ccd cl outer) (call (.ref 140) [.ref lp, .ref ll, .ref lr, .int sd ts]) Q E s := by
  w_top off
  have e16 : (2 : Int) ^ Int.toNat 16 = 65536 := by decide
  have hx0 : 0 < 32 - sd + sd * 2 ^ Int.toNat 16 := by rw [e16]; omega
  have hx1 : 32 - sd + sd * 2 ^ Int.toNat 16 < 2 ^ 24 := by rw [e16]; omega
  refine wpAny_call ?_
  k_dflt ktn_open
  rename (_ ∧ AllLt _ _) => hl1
  have hN := ktn_ltOf hl1.2
  k_steps
  unfold Stop
  rename_i g L1 _ tk0 FG B1 X1 T1 o1 o2 o3 o4 d1 d2 d3 d4 d9 o9 ta tb tc _ _ dr hd9 hs9 l9 _ oP dP _ D1 _ _ _ _ _ _ lD1 l2 _ _ l3 _ ll3 l4 _ _ _ ll4 _ _ _ _ _ hr F2 N2 _
  replace d4 : o4.data = Data.cell (some (.ref lp)) := d4
  generalize htk0 : tk = tk0' at *
  generalize hxe : 32 - sd + sd * 2 ^ Int.toNat 16 = x at *
  clear d3 o3 hx0 hx1
  refine src_rangeG (news := (38, tabObj ps) :: (l4, W.listOf #[Value.ref l3] 0) :: (l3, W.listOf #[Value.int 1 tk0'] 0) :: (d9, o9) :: (L1 + 1 + 1 + 1 + 1, o1) :: (L1 + 1 + 1 + 1, o2) :: (L1 + 1 + 1, oP) :: (L1 + 1, o4) :: news) (n := 3)
    (WAcc x ((l4, W.listOf #[Value.ref l3] 0) :: (l3, W.listOf #[Value.int 1 tk0'] 0) :: (d9, o9) :: (L1 + 1 + 1 + 1 + 1, o1) :: (L1 + 1 + 1 + 1, o2) :: (L1 + 1 + 1, oP) :: (L1 + 1, o4) :: news)) rfl F2 (cb_drop N2 (by kcj_all)) hr (by decide) (by decide) (by decide) (by decide) rfl ?_ ?_ ?_
  · intro i t I oI C' oC D₀ m₂ h3 tk3 ys led E' hi hC hx F3 N3 off ne hacc
    obtain ⟨ps2, ex, rfl, hp2, h38', hb, hl, hy⟩ := hacc
    simp only [List.cons_append] at N3 off hp2 h38'
    have mP : (L1 + 1 + 1, oP) ∈ (I, oI) :: (C', oC) :: (D₀, LCg.lst ys) :: (38, tabObj ps2) :: (l4, W.listOf #[Value.ref l3] 0) :: (l3, W.listOf #[Value.int 1 tk0'] 0) :: (d9, o9) :: (L1 + 1 + 1 + 1 + 1, o1) :: (L1 + 1 + 1 + 1, o2) :: (L1 + 1 + 1, oP) :: (L1 + 1, o4) :: (news ++ ex) := by simp
    have mD : (d9, o9) ∈ (I, oI) :: (C', oC) :: (D₀, LCg.lst ys) :: (38, tabObj ps2) :: (l4, W.listOf #[Value.ref l3] 0) :: (l3, W.listOf #[Value.int 1 tk0'] 0) :: (d9, o9) :: (L1 + 1 + 1 + 1 + 1, o1) :: (L1 + 1 + 1 + 1, o2) :: (L1 + 1 + 1, oP) :: (L1 + 1, o4) :: (news ++ ex) := by simp
    have hf : PyProof.V.FlatPairs PyData.int [((1 : Int), Value.int x ta), (2, .int (x * x) tb), (3, .int (x * x * x) tc)] [(.int 1, .int x), (.int 2, .int (x * x)), (.int 3, .int (x * x * x))] := .cons (.int _ _) (.cons (.int _ _) (.cons (.int _ _) .nil))
    obtain ⟨p1, g1, b1, p2, g2, b2, p3, g3, b3⟩ := HP
    have hi3 : i = 0 ∨ i = 1 ∨ i = 2 := by omega
    rcases hi3 with rfl | rfl | rfl
    · replace hx : m₂ "k" = some (.int 1 t) := hx
      k_steps
      rename_i v9 D9 c9 c8 p9 oc9 h9 tk9 w9 n9 nc9 tp9 lt9 or9 of9 F9 N9
      obtain ⟨news', hs, ha⟩ := WAcc.step (base := (l4, W.listOf #[Value.ref l3] 0) :: (l3, W.listOf #[Value.int 1 tk0'] 0) :: (d9, o9) :: (L1 + 1 + 1 + 1 + 1, o1) :: (L1 + 1 + 1 + 1, o2) :: (L1 + 1 + 1, oP) :: (L1 + 1, o4) :: news) h38' hb hl hy n9 nc9 tp9 lt9 or9 w9
      exact ⟨_, _, news', rfl, F9, news_map N9 hs, LCg.Off3.of fun p hp => of9.mem p (hs p hp), ha⟩
    · replace hx : m₂ "k" = some (.int 2 t) := hx
      k_steps
      rename_i v9 D9 c9 c8 p9 oc9 h9 tk9 w9 n9 nc9 tp9 lt9 or9 of9 F9 N9
      obtain ⟨news', hs, ha⟩ := WAcc.step (base := (l4, W.listOf #[Value.ref l3] 0) :: (l3, W.listOf #[Value.int 1 tk0'] 0) :: (d9, o9) :: (L1 + 1 + 1 + 1 + 1, o1) :: (L1 + 1 + 1 + 1, o2) :: (L1 + 1 + 1, oP) :: (L1 + 1, o4) :: news) h38' hb hl hy n9 nc9 tp9 lt9 or9 w9
      exact ⟨_, _, news', rfl, F9, news_map N9 hs, LCg.Off3.of fun p hp => of9.mem p (hs p hp), ha⟩
    · replace hx : m₂ "k" = some (.int 3 t) := hx
      k_steps
      rename_i v9 D9 c9 c8 p9 oc9 h9 tk9 w9 n9 nc9 tp9 lt9 or9 of9 F9 N9
      obtain ⟨news', hs, ha⟩ := WAcc.step (base := (l4, W.listOf #[Value.ref l3] 0) :: (l3, W.listOf #[Value.int 1 tk0'] 0) :: (d9, o9) :: (L1 + 1 + 1 + 1 + 1, o1) :: (L1 + 1 + 1 + 1, o2) :: (L1 + 1 + 1, oP) :: (L1 + 1, o4) :: news) h38' hb hl hy n9 nc9 tp9 lt9 or9 w9
      exact ⟨_, _, news', rfl, F9, news_map N9 hs, LCg.Off3.of fun p hp => of9.mem p (hs p hp), ha⟩
  · refine ⟨ps, [], by simp, hps.mono rfl (fun p hp => by simp [hp]), fun q hq => ?_, (fun p hp => absurd hp List.not_mem_nil), rfl, fun j hj => absurd hj (Nat.not_lt_zero _)⟩
    rw [List.append_nil] at hq
    have hL38 : @LT.lt Nat _ 38 L1 := hl1.1
    have hl38 : @LT.lt Nat _ 38 l3 := by omega
    simp only [List.mem_cons] at hq
    rcases hq with rfl | rfl | rfl | rfl | rfl | rfl | rfl | hq
    · dsimp only; omega
    · dsimp only; omega
    · dsimp only; omega
    · dsimp only; omega
    · dsimp only; omega
    · dsimp only; omega
    · dsimp only; omega
    · exact h38 q hq
  · intro gg ys led hacc
    obtain ⟨ps2, ex, rfl, hp2, h38', hb, hl, hy⟩ := hacc
    have hzl : [Value.ref l3].length + ys.length ≤ 100000 := by rw [hl]; simp
    have hN2 : ∀ p ∈ news ++ ex, @Ne Nat p.1 (L1 + 1 + 1 + 1) ∧ @Ne Nat p.1 (L1 + 1 + 1 + 1 + 1) := fun p hp => by
      rcases List.mem_append.mp hp with h | h
      · have : @LT.lt Nat _ p.1 L1 := hN p h
        exact ⟨Nat.ne_of_lt (by omega), Nat.ne_of_lt (by omega)⟩
      · exact ⟨hb p h (L1 + 1 + 1 + 1, o2) (by simp), hb p h (L1 + 1 + 1 + 1 + 1, o1) (by simp)⟩
    have hN3 : ∀ p ∈ news ++ ex, @Ne Nat p.1 (L1 + 1 + 1 + 1) := fun p hp => (hN2 p hp).1
    have hN4 : ∀ p ∈ news ++ ex, @Ne Nat p.1 (L1 + 1 + 1 + 1 + 1) := fun p hp => (hN2 p hp).2
    have hyn : ∀ j, j < 3 → ∃ D vs c, ys[j]? = some (.ref D) ∧ (D, W.listOf vs.toArray c) ∈ news ++ ex ∧ Wt (pw x (j + 1)) (j + 2) vs := fun j hj => by
      obtain ⟨D, vs, c, e1, e2, e3⟩ := hy j hj
      exact ⟨D, vs, c, e1, List.mem_append_right _ e2, e3⟩
    have hsub : ∀ p ∈ news, p ∈ news ++ ex := fun p hp => List.mem_append_left _ hp
    simp only [List.cons_append]
    clear hp2 h38' hb hy hN2
    generalize news ++ ex = nn at *
    k_steps
    unfold Stop
    rename_i _ _ _ _ Dw _ lDw _ oWt F5 N5 dWt
    have hwt : ∀ i, i < 4 → ∃ Wk vk ck, ([Value.ref l3] ++ ys)[i]? = some (.ref Wk) ∧ (Wk, W.listOf vk.toArray ck) ∈ (l3, W.listOf #[Value.int 1 tk0'] 0) :: nn ∧ Wt (pw x i) (i + 1) vk := by
      intro i hi
      cases i with
      | zero => exact ⟨l3, [Value.int 1 _], 0, rfl, .head _, rfl, fun j hj => by
          have : j = 0 := by omega
          subst this
          exact ⟨_, rfl⟩⟩
      | succ i =>
        obtain ⟨D, vs, c, e1, e2, e3⟩ := hyn i (by omega)
        exact ⟨D, vs, c, by simpa using e1, .tail _ e2, e3⟩
    refine For_C (h₀ := g) ?_
    k_steps
    unfold Stop
    rename_i _ _ _ _ _ hr6 F6 N6 _
    have N6' : News g _ _ ((L1 + 1 + 1 + 1, o2) :: (Dw, W.listOf ([Value.ref l3] ++ ys).toArray 0) :: (l3, W.listOf #[Value.int 1 tk0'] 0) :: (L1 + 1 + 1 + 1 + 1, oWt) :: (L1 + 1, o4) :: (38, tabObj ps2) :: nn) := cb_drop N6 (by kcj_all)
    clear N6
    have h38n : @Ne Nat 38 (L1 + 1 + 1 + 1) ∧ @Ne Nat 38 (L1 + 1 + 1 + 1 + 1) := by
      have hL38 : @LT.lt Nat _ 38 L1 := hl1.1
      exact ⟨Nat.ne_of_lt (by omega), Nat.ne_of_lt (by omega)⟩
    replace hN3 : ∀ p ∈ (38, tabObj ps2) :: nn, @Ne Nat p.1 (L1 + 1 + 1 + 1) := List.forall_mem_cons.mpr ⟨h38n.1, hN3⟩
    replace hN4 : ∀ p ∈ (38, tabObj ps2) :: nn, @Ne Nat p.1 (L1 + 1 + 1 + 1 + 1) := List.forall_mem_cons.mpr ⟨h38n.2, hN4⟩
    replace hsub : ∀ p ∈ news, p ∈ (38, tabObj ps2) :: nn := fun p hp => .tail _ (hsub p hp)
    replace hwt : ∀ i, i < 4 → ∃ Wk vk ck, ([Value.ref l3] ++ ys)[i]? = some (.ref Wk) ∧ (Wk, W.listOf vk.toArray ck) ∈ (l3, W.listOf #[Value.int 1 tk0'] 0) :: (38, tabObj ps2) :: nn ∧ Wt (pw x i) (i + 1) vk := fun i hi => by
      obtain ⟨Wk, vk, ck, q1, q2, q3⟩ := hwt i hi
      exact ⟨Wk, vk, ck, q1, by rcases List.mem_cons.mp q2 with h | h <;> simp [h], q3⟩
    have hm38 : (38, tabObj ps2) ∈ (38, tabObj ps2) :: nn := .head _
    clear hyn
    generalize (38, tabObj ps2) :: nn = nn at *
    refine for_rangeC (a := 0) (b := 4) (n := 4) (WgJ L1 Dw l3 ([Value.ref l3] ++ ys) tk0' oWt o4 ll lr nn) rfl F6 N6' hr6 (by decide) (by decide) (by decide) (by decide) rfl ⟨o2, _, rfl, d2, rfl, rfl⟩ ?_ ?_
    · rintro i u m₁ led h7 tk7 I oI hi ⟨ok, v0, rfl, dk, em1, em2⟩ ho hlt F7 N7
      obtain ⟨Wk, vk, ck, ew, mw, wl, wd⟩ := hwt i hi
      have hIk : @Ne Nat (L1 + 1 + 1 + 1) I := ho (L1 + 1 + 1 + 1, ok) (.head _)
      have ei : (0 + (i : Int)).toNat = i := by omega
      have ewi : ([Value.ref l3] ++ ys)[(0 + (i : Int)).toNat]? = some (.ref Wk) := by rw [ei]; exact ew
      have h32 : Sml ((32 : Int) ^ (0 + (i : Int)).toNat) := by
        unfold Sml
        rw [ei]
        have h4 : i = 0 ∨ i = 1 ∨ i = 2 ∨ i = 3 := by omega
        rcases h4 with rfl | rfl | rfl | rfl <;> decide +kernel
      have hpg : ∀ j : Nat, j < 4 → ∃ t, vp[(0 + (j : Int)).toNat]? = some (.float (bp.getD j 0) t) := fun j hj => by
        have e : (0 + (j : Int)).toNat = j := by omega
        obtain ⟨t, _, h⟩ := fp.get j (bp.getD j 0) (by rw [List.getD_eq_getElem?_getD, List.getElem?_eq_getElem (by omega)]; rfl)
        exact ⟨t, by rw [e]; exact h⟩
      k_steps
      unfold Stop
      rename_i _ ok2 _ _ dk2 _ _ _ _ _ hr8 F8 N8 _
      refine src_range2 (fun j y => ∃ t, y = .float (Float64.mul (Float64.ofInt (dgt x i j)) (bp.getD j 0)) t) (n := i + 1) rfl F8 N8 hr8 (by decide) (by decide) (by omega) (by omega) (by omega) ?_ ?_
      · intro j t I2 oI2 C2 oC2 D2 m₂ h8 tk8 ys2 E' hj hC hx F9 N9 off ne
        have mWk : (Wk, W.listOf vk.toArray ck) ∈ (I2, oI2) :: (C2, oC2) :: (D2, LCg.lst ys2) :: (I, oI) :: (L1 + 1 + 1 + 1, ok2) :: (Dw, W.listOf ([Value.ref l3] ++ ys).toArray 0) :: (l3, W.listOf #[Value.int 1 tk0'] 0) :: (L1 + 1 + 1 + 1 + 1, oWt) :: (L1 + 1, o4) :: nn := by
          simp only [List.mem_cons] at mw ⊢
          rcases mw with h | h <;> simp [h]
        have mlp : (lp, W.listOf vp.toArray np) ∈ (I2, oI2) :: (C2, oC2) :: (D2, LCg.lst ys2) :: (I, oI) :: (L1 + 1 + 1 + 1, ok2) :: (Dw, W.listOf ([Value.ref l3] ++ ys).toArray 0) :: (l3, W.listOf #[Value.int 1 tk0'] 0) :: (L1 + 1 + 1 + 1 + 1, oWt) :: (L1 + 1, o4) :: nn := by
          have := hsub _ mp
          simp [this]
        obtain ⟨tv, evk⟩ := wd j hj
        replace evk : vk[(0 + (j : Int)).toNat]? = some (.int (dgt x i j) tv) := by
          have e : (0 + (j : Int)).toNat = j := by omega
          rw [e]; exact evk
        have hfit := dgt_le x i j
        obtain ⟨tp, evp⟩ := hpg j (by omega)
        k_steps
        exact ⟨_, _, rfl, by k_asm, by k_asm, _, rfl⟩
      · intro gg2 ys2 hy1 hy2
        have hys : PySem.Flt.FloatsAre ys2 (frontL x bp i) := floats_of_get (by rw [hy1]; simp [frontL]) fun j hj => by
          have hj' : j < i + 1 := by simpa [frontL] using hj
          obtain ⟨y, hy, t, rfl⟩ := hy2 j hj'
          exact ⟨t, by unfold frontL; rw [range_getD _ hj']; exact hy⟩
        have hnz : (frontL x bp i).length ≠ 0 := by simp [frontL]
        k_steps
        unfold Stop
        rename_i t9 _ _ _ _ _ _ _ _ hr9 F9 N9 _
        refine src_range2 (news := (I, oI) :: (L1 + 1 + 1 + 1, ok2) :: (Dw, W.listOf ([Value.ref l3] ++ ys).toArray 0) :: (l3, W.listOf #[Value.int 1 tk0'] 0) :: (L1 + 1 + 1 + 1 + 1, oWt) :: (L1 + 1, o4) :: nn) (fun j y => ∃ t, y = .float (Float64.mul (Float64.ofInt (dgt x i j)) (bp.getD (3 - i + j) 0)) t) (n := i + 1) rfl F9 (cb_drop N9 (by kcj_all)) hr9 (by decide) (by decide) (by omega) (by omega) (by omega) ?_ ?_
        · intro j t I2 oI2 C2 oC2 D2 m₂ h8 tk8 ys3 E' hj hC hx F9 N9 off ne
          have mWk : (Wk, W.listOf vk.toArray ck) ∈ (I2, oI2) :: (C2, oC2) :: (D2, LCg.lst ys3) :: (I, oI) :: (L1 + 1 + 1 + 1, ok2) :: (Dw, W.listOf ([Value.ref l3] ++ ys).toArray 0) :: (l3, W.listOf #[Value.int 1 tk0'] 0) :: (L1 + 1 + 1 + 1 + 1, oWt) :: (L1 + 1, o4) :: nn := by
            simp only [List.mem_cons] at mw ⊢
            rcases mw with h | h <;> simp [h]
          have mlp := hsub _ mp
          obtain ⟨tv, evk⟩ := wd j hj
          replace evk : vk[(0 + (j : Int)).toNat]? = some (.int (dgt x i j) tv) := by
            have e : (0 + (j : Int)).toNat = j := by omega
            rw [e]; exact evk
          have hfit := dgt_le x i j
          obtain ⟨tp, evp⟩ := hpg (3 - i + j) (by omega)
          replace evp : vp[(3 - (0 + (i : Int)) + (0 + (j : Int))).toNat]? = some (.float (bp.getD (3 - i + j) 0) tp) := by
            have e : (3 - (0 + (i : Int)) + (0 + (j : Int))).toNat = (0 + ((3 - i + j : Nat) : Int)).toNat := by omega
            rw [e]; exact evp
          k_steps
          exact ⟨_, _, rfl, by k_asm, by k_asm, _, rfl⟩
        · intro gg3 ys3 hy3 hy4
          have hys2 : PySem.Flt.FloatsAre ys3 (behindL x bp i) := floats_of_get (by rw [hy3]; simp [behindL]) fun j hj => by
            have hj' : j < i + 1 := by simpa [behindL] using hj
            obtain ⟨y, hy, t, rfl⟩ := hy4 j hj'
            exact ⟨t, by unfold behindL; rw [range_getD _ hj']; exact hy⟩
          have hnz2 : (behindL x bp i).length ≠ 0 := by simp [behindL]
          clear hys hnz hwt
          have hll := hsub _ ml
          have hlr := hsub _ mr
          obtain ⟨tl, _, evl⟩ := fl.get i (bl.getD i 0) (by rw [List.getD_eq_getElem?_getD, List.getElem?_eq_getElem (by omega)]; rfl)
          replace evl : vl[(0 + (i : Int)).toNat]? = some (.float (bl.getD i 0) tl) := by rw [ei]; exact evl
          obtain ⟨tr, _, evr⟩ := fr.get (3 - i) (br.getD (3 - i) 0) (by rw [List.getD_eq_getElem?_getD, List.getElem?_eq_getElem (by omega)]; rfl)
          replace evr : vr[(3 - (0 + (i : Int))).toNat]? = some (.float (br.getD (3 - i) 0) tr) := by
            have e : (3 - (0 + (i : Int))).toNat = 3 - i := by omega
            rw [e]; exact evr
          obtain ⟨hw1, hw2⟩ := HW i hi
          k_steps
          · exact (ne_absd hw1 (by assumption)).elim
          · exact (ne_absd hw2 (by assumption)).elim
          · rename_i F10 N10 _ _ _
            exact ⟨_, _, _, (L1 + 1 + 1 + 1, ok2) :: (Dw, W.listOf (Value.ref l3 :: ys).toArray 0) :: (l3, W.listOf #[Value.int 1 tk0'] 0) :: (L1 + 1 + 1 + 1 + 1, oWt) :: (L1 + 1, o4) :: nn, rfl, F10, cb_drop N10 (by kcj_all), List.forall_mem_cons.mpr ⟨hIk, fun p hp => ho p (.tail _ hp)⟩, ok2, _, rfl, dk2, by ktr_rel, by ktr_rel⟩
    · rintro h7 tk7 m₁ led F7 N7 ⟨ok, v0, rfl, dk, em1, em2⟩
      k_steps
      rename_i kF kN _ _
      refine hret ps2 _ _ _ (by k_asm) (fun p hp => (by k_asm : News h₀ L _ _) p ?_)
      rcases List.mem_cons.mp hp with rfl | hp
      · simp [hm38]
      · simp [hsub p hp]
end
end
end PartCW2
section PartC1
open PySem PySem.W PySem.Spec PySem.Calls PyProof.Rows
section
structure Hue (z : UInt64) : Prop where
  md : (Float64.divmod z 4607182418800017408).snd = z
  lt : (Float64.cmp z 4595172819793696085 == some Ordering.lt) = true
theorem hue1 {z : UInt64} (H : Hue z) : (Float64.cmp (Float64.divmod z 4607182418800017408).snd 4595172819793696085 == some Ordering.lt) = true := by rw [H.md]; exact H.lt
theorem hue_no {z : UInt64} (H : Hue z) (h : (Float64.cmp (Float64.divmod z 4607182418800017408).snd 4595172819793696085 == some Ordering.lt) = false) : False := by rw [hue1 H] at h; cases h
theorem hue_fv {z x y : UInt64} (H : Hue z) : Float64.add x (Float64.mul (Float64.mul (Float64.sub y x) (Float64.divmod z 4607182418800017408).snd) 4618441417868443648) = fv z x y := by rw [H.md]; rfl
section
variable {w : World} {p : Program} {loose : List Str} {mean : ExcName → Option Value} {mg mb : Str → Option Value} {dp un : Nat} {gd : Option (List Code)} {cn : Str} {cs : Scope} {a : Addr} {ccd : Value} {cl : List (Str × Addr)} {outer : List Env} {A₀ : Around} {base h₀ : Heap} {L : Addr} {m : Str → Option Value} {news : List (Addr × Obj)} {s : Shared} {Q E : Value → Shared → Prop}
theorem c_v {x y z : UInt64} {tx ty tz : Tok}
    (B : Below A₀ base outer h₀) (F : Fr h₀ L s.heap m) (X : (hd.heap_1 w.params).In h₀) (N : News h₀ L s.heap news) (T : Top p loose mean mg mb h₀) (hk : cs.kind = .function)
    (H : Hue z) (hdp : dp + 1 < recursionLimit) (hun : un + 8 < cLine)
    (hret : ∀ (t : Tok) (h' : Heap) (tk' : Nat), t ≠ 0 → Fr h₀ L h' m → News h₀ L h' news → Q (.float (fv z x y) t) { s with heap := h', toks := tk' }) :
    wpAny (model Pg w) (ktrTop dp un gd cn cs L a ccd cl outer) (call (.ref 28) [.float x tx, .float y ty, .float z tz]) Q E s := by
  w_top off
  refine wpAny_call ?_
  k_dflt cell_enter
  k_steps
  all_goals first | exact (hue_no H (by assumption)).elim | (rw [hue_fv H]; exact hret _ _ _ (Nat.succ_ne_zero _) (by k_asm) (by k_asm))
end
end
end PartC1
section PartC2
open PySem PySem.W PySem.Spec PySem.Calls PyProof.Rows
section
noncomputable def CutJ (hu : UInt64) (news : List (Addr × Obj)) (L1 Df : Addr) (oH : Obj) (LF RT : List UInt64) (n : Nat) (m : Str → Option Value) (led : List (Addr × Obj)) : Prop :=
  ∃ (bs ls rs : List UInt64) (vl vls vrs : List Value) (Dl Dr : Addr) (c1 c2 c3 : Nat) (oC : Obj),
    n = bs.length ∧ Fls vl bs ∧ Fls vls ls ∧ Fls vrs rs ∧ ls ++ firsts hu n bs = LF ∧ lasts hu n bs ++ rs = RT ∧
    m "left" = some (.ref Df) ∧ m "right" = some (.ref Dr) ∧ oC.data = Data.cell (some (.ref Dl)) ∧
    (@Ne Nat Dl Df) ∧ (@LT.lt Nat _ Df Dr) ∧ (@Ne Nat Dl (L1 + 1 + 1)) ∧ (@LT.lt Nat _ (L1 + 1 + 1) Df) ∧ bs.length + ls.length ≤ 1000 ∧ rs.length + bs.length ≤ 1000 ∧
    led = (Dl, W.listOf vl.toArray c1) :: (Dr, W.listOf vrs.toArray c3) :: (Df, W.listOf vls.toArray c2) :: (L1 + 1 + 1, oC) :: (L1 + 1, oH) :: news
section
variable {w : World} {p : Program} {loose : List Str} {mean : ExcName → Option Value} {mg mb : Str → Option Value} {dp un : Nat} {gd : Option (List Code)} {cn : Str} {cs : Scope} {a : Addr} {ccd : Value} {cl : List (Str × Addr)} {outer : List Env} {A₀ : Around} {base h₀ : Heap} {L : Addr} {m : Str → Option Value} {news : List (Addr × Obj)} {s : Shared} {Q E : Value → Shared → Prop}
local macro_rules | `(tactic| ktn_open) => `(tactic| first | cell_enter | walk_at "enterC")
local macro_rules | `(tactic| walk_at "exec While") => `(tactic| (k_here; refine Stop.out ?_))
local macro_rules | `(tactic| walk_at "CompSrc") => `(tactic| (k_here; refine Stop.out ?_))
local macro_rules | `(tactic| walk_at "compareOp NotEq") => `(tactic| (k_here; k_dflt ((with_reducible show wpAny _ _ (compareOp CmpOp.NotEq (Value.ref _) (Value.ref _)) _ _ _); (first | (refine' ne_cons_nil (by is_list) (by is_list) (by exact lt_le (k := 16) (by decide) (by assumption)) ?_) | (refine' ne_nils (by is_list) (by is_list) (by exact lt_le (k := 16) (by decide) (by assumption)) ?_)))))
local macro_rules | `(tactic| walk_at "call builtin:len") => `(tactic| (k_here; k_dflt (refine' len_at (by is_list) (by first | assumption | omega) ?_)))
local macro_rules | `(tactic| walk_at "subscriptTail Name UnaryOp") => `(tactic| (k_here; k_dflt (refine' item_last (by is_list) (by exact Nat.succ_pos _) (by assumption) ?_)))
local macro_rules | `(tactic| walk_at "binaryOp Add ref ref") => `(tactic| (k_here; k_dflt (refine' add_one (by k_asm) (by k_asm) (by is_list) (by is_list) ?_ (by first | assumption | omega)); intro D' h' F' N' l1; (try k_lt l1); (try k_sweep)))
local macro_rules | `(tactic| walk_at "call builtin:list.append") => `(tactic| (k_here; k_dflt (refine' append_L (by k_asm) (by k_asm) (by k_upd) (by first | assumption | omega) ?_); intro h' F' N'; (try k_sweep)))
local macro_rules | `(tactic| walk_at "subscriptTail Name Name") => `(tactic| (k_here; k_dflt (refine' item_at (by is_list) (by omega) (by omega) (by assumption) ?_)))
local macro_rules | `(tactic| walk_at "subscriptTail Name BinOp") => `(tactic| (k_here; k_dflt (refine' item_at (by is_list) (by omega) (by omega) (by assumption) ?_)))
local macro_rules | `(tactic| walk_at "call ref") => `(tactic| (k_here; (with_reducible show wpAny _ _ (call (Value.ref 28) _ _) _ _ _); (with_unfolding_all refine' c_v ?k1 ?k2 ?k3 ?k4 ?k5 ?k6 ?k7 ?k8 ?k9 ?_; walk_at "cK6"; (case k7 => assumption); (case k8 => exact lt_le (b := 2) (k := 2) (by decide) (by assumption)); (case k9 => exact lt_le (b := 11) (k := 16) (by decide) (by assumption))); intro t9 h9 tk9 nz9 F9 N9; (try dsimp only)))
theorem c_cut {l : Addr} {hu : UInt64} {th : Tok} {vs : List Value} {bs : List UInt64} {n : Nat}
    (B : Below A₀ base outer h₀) (F : Fr h₀ L s.heap m) (X : (hd.heap_1 w.params).In h₀) (N : News h₀ L s.heap news) (T : Top p loose mean mg mb h₀) (hk : cs.kind = .function)
    (hl : (l, W.listOf vs.toArray n) ∈ news) (hf : Fls vs bs) (hlen : vs.length ≤ 100)
    (H : Hue hu) (hdp : dp + 2 < recursionLimit) (hun : un + 16 < cLine)
    (hret : ∀ (Df Dr t : Addr) (vls vrs : List Value) (c2 c3 : Nat) (h' : Heap) (tk' : Nat), Fls vls (firsts hu bs.length bs) → Fls vrs (lasts hu bs.length bs) → (@LT.lt Nat _ Df Dr) → (@LT.lt Nat _ Dr t) → (∀ p ∈ news, p.1 < Df) → Fr h₀ L h' m →
      News h₀ L h' ((t, { cls := .type "tuple", data := .seq [.ref Df, .ref Dr].toArray }) :: (Dr, W.listOf vrs.toArray c3) :: (Df, W.listOf vls.toArray c2) :: news) → Q (.ref t) { s with heap := h', toks := tk' }) :
    wpAny (model Pg w) (ktrTop dp un gd cn cs L a ccd cl outer) (call (.ref 135) [.ref l, .float hu th]) Q E s := by
  w_top off
  refine wpAny_call ?_
  k_dflt ktn_open
  k_steps
  rename_i g L1 h1 tk1 FG B1 X1 T1 hN oC0 oH dC0 dH Df _ hlt1 _ _ Dr _ hlt2 _ _ Dl cl0 _ hlt3 hh oC F1 N1 dC
  replace dH : oH.data = Data.cell (some (.float hu th)) := dH
  clear dC0
  unfold Stop
  have hv := hf.length
  refine While_inv2 (CutJ hu news L1 Df oH (firsts hu bs.length bs) (lasts hu bs.length bs)) F1 N1 ⟨bs, [], [], vs, [], [], Dl, Dr, cl0, 0, 0, oC, rfl, hf, .nil, .nil, rfl, List.append_nil _, by ktr_rel, by ktr_rel, dC, by omega, by omega, by omega, by omega, by simp; omega, by simp; omega, rfl⟩ ?_
  clear N1 F1 dC
  intro k m1 led h2 tk2 F1 N1 hJ
  obtain ⟨bs', ls, rs, vl, vls, vrs, Dl', Dr', c1, c2, c3, oC', hn, f1, f2, f3, e1, e2, m1l, m1r, dC, q1, q2, q3, q4, z1, z2, eled⟩ := hJ
  subst eled
  cases f1 with
  | nil =>
    k_steps
    simp only [List.length_nil] at hn
    subst hn
    simp only [firsts, lasts, List.append_nil, List.nil_append] at e1 e2
    have hnC : ∀ p ∈ news, p.1 < Df := fun p hp => Nat.lt_trans (hN p hp) (by omega)
    exact hret Df Dr' _ vls vrs c2 c3 _ _ (e1 ▸ f2) (e2 ▸ f3) q2 (by omega) hnC (by k_asm) (cb_drop (by k_asm) (by kcj_all))
  | cons b0 t0 ht0 f1 =>
    rename_i vl0 bs0
    have hv0 := f1.length
    obtain ⟨tl, htl, hxl⟩ := (Fls.cons b0 t0 ht0 f1).get ((Value.float b0 t0 :: vl0).length - 1) ((b0 :: bs0).getD (bs0.length) 0) (by simp [hv0])
    have hz3 := f3.length
    have hz2 := f2.length
    have hzs : vls.length ≤ 100000 := by omega
    have hzr : vrs.length ≤ 100000 := by omega
    have hzl : (Value.float b0 t0 :: vl0).length ≤ 100000 := by simp at z1 ⊢; omega
    k_steps
    unfold Stop
    have hb1 : ((Value.float b0 t0 :: vl0).length : Int) - 1 = 0 + (vl0.length : Int) := by simp
    refine src_range (fun i y => ∃ t, t ≠ 0 ∧ y = .float (fv hu ((b0 :: bs0).getD i 0) ((b0 :: bs0).getD (i + 1) 0)) t) rfl (by k_asm) (by k_asm) (by assumption) (by decide) (by decide) hb1 (by omega) ?_ ?_
    · intro i t I oI C oC D m₂ h tk ys E' hi hC hx F' N' off ne
      obtain ⟨ta, hta, hxa⟩ := (Fls.cons b0 t0 ht0 f1).get (0 + (i : Int)).toNat ((b0 :: bs0).getD i 0) (by
        have : (0 + (i : Int)).toNat = i := by omega
        rw [this]; simp [List.getD_eq_getElem?_getD]; rw [List.getElem?_eq_getElem (by simp; omega)]; rfl)
      obtain ⟨tb, htb, hxb⟩ := (Fls.cons b0 t0 ht0 f1).get (0 + (i : Int) + 1).toNat ((b0 :: bs0).getD (i + 1) 0) (by
        have : (0 + (i : Int) + 1).toNat = i + 1 := by omega
        rw [this]; simp [List.getD_eq_getElem?_getD]; rw [List.getElem?_eq_getElem (by omega)]; rfl)
      k_steps
      exact ⟨_, _, rfl, by k_asm, by k_asm, _, by assumption, rfl⟩
    · intro gg ys hy1 hy2
      have hys : Fls ys (stp hu (b0 :: bs0)) := Fls.of_get (by rw [hy1, stp_length]; simp; omega) fun i hi => by
        rw [stp_length] at hi
        obtain ⟨y, hy, t, ht, rfl⟩ := hy2 i (by simp at hi; omega)
        exact ⟨t, ht, by rw [stp_get hu _ _ hi]; exact hy⟩
      k_steps
      rename_i hD _ _ dC'
      have hn' : k = bs0.length + 1 := hn
      subst hn'
      have hsl : (stp hu (b0 :: bs0)).length = bs0.length := by rw [stp_length]; rfl
      simp only [List.length_cons] at z1 z2
      exact ⟨_, _, _, _, bs0.length, rfl, by k_asm, cb_drop (by k_asm) (by kcj_all), Nat.lt_succ_self _,
        stp hu (b0 :: bs0), ls ++ [b0], (b0 :: bs0).getD bs0.length 0 :: rs, ys, _, _, _, _, _, _, _, _, hsl.symm, hys, f2.append (.cons b0 t0 ht0 .nil), .cons _ tl htl f3,
        by rw [← e1]; simp [firsts], by rw [← e2]; simp [lasts], by ktr_rel, by ktr_rel, dC', by omega, by omega, by omega, q4, by simp [hsl]; omega, by simp [hsl]; omega, rfl⟩
end
end
end PartC2
section PartC3
open PySem PySem.W PySem.Spec PySem.Calls PyProof.Rows
section
section
variable {w : World} {p : Program} {loose : List Str} {mean : ExcName → Option Value} {mg mb : Str → Option Value} {dp un : Nat} {gd : Option (List Code)} {cn : Str} {cs : Scope} {a : Addr} {ccd : Value} {cl : List (Str × Addr)} {outer : List Env} {A₀ : Around} {base h₀ : Heap} {L : Addr} {m : Str → Option Value} {news : List (Addr × Obj)} {s : Shared} {Q E : Value → Shared → Prop}
local macro_rules | `(tactic| ktn_open) => `(tactic| first | cell_enter | walk_at "enterC")
theorem c_cost {c1 c2 : Nat} {t1 t2 : Tok} (h1 : c1 = 97 ∨ c1 = 65) (h2 : c2 = 97 ∨ c2 = 65)
    (B : Below A₀ base outer h₀) (F : Fr h₀ L s.heap m) (X : (hd.heap_1 w.params).In h₀) (N : News h₀ L s.heap news) (T : Top p loose mean mg mb h₀) (hk : cs.kind = .function)
    (hdp : dp + 1 < recursionLimit) (hun : un + 8 < cLine)
    (hret : ∀ (t : Tok) (h' : Heap) (tk' : Nat), Fr h₀ L h' m → News h₀ L h' news → Q (.int (if c1 = c2 then 0 else 1) t) { s with heap := h', toks := tk' }) :
    wpAny (model Pg w) (ktrTop dp un gd cn cs L a ccd cl outer) (call (.ref 116) [.str ⟨#[c1]⟩ t1, .str ⟨#[c2]⟩ t2]) Q E s := by
  w_top off
  rcases h1 with rfl | rfl <;> rcases h2 with rfl | rfl
  all_goals
    refine wpAny_call ?_
    k_dflt ktn_open
    k_steps
  all_goals exact hret _ _ _ (by k_asm) (by k_asm)
end
end
end PartC3
section PartC4
open PySem PySem.W PySem.Spec PySem.Calls PyProof.Rows
section
section
variable {w : World} {p : Program} {loose : List Str} {mean : ExcName → Option Value} {mg mb : Str → Option Value} {dp un : Nat} {gd : Option (List Code)} {cn : Str} {cs : Scope} {a : Addr} {ccd : Value} {cl : List (Str × Addr)} {outer : List Env} {A₀ : Around} {base h₀ : Heap} {L : Addr} {m : Str → Option Value} {news : List (Addr × Obj)} {s : Shared} {Q E : Value → Shared → Prop}
local macro_rules | `(tactic| ktn_open) => `(tactic| first | cell_enter | walk_at "enterC")
local macro_rules | `(tactic| walk_at "CompSrc") => `(tactic| (k_here; refine Stop.out ?_))
local macro_rules | `(tactic| walk_at "CompSrcT") => `(tactic| (k_here; refine Stop.out ?_))
local macro_rules | `(tactic| walk_at "call builtin:str.join") => `(tactic| (k_here; k_dflt (refine' join_word (by is_list) (by assumption) (by omega) ?_); intro t9 k9))
local macro_rules | `(tactic| walk_at "subscriptTail Name BinOp str int") => `(tactic| (k_here; k_dflt (refine' item_chr (by omega) (by omega) (by assumption) ?_)))
local macro_rules | `(tactic| walk_at "subscriptTail Name Name str int") => `(tactic| (k_here; k_dflt (refine' item_chr (by omega) (by omega) (by assumption) ?_)))
local macro_rules | `(tactic| walk_at "call builtin:sum") => `(tactic| (k_here; k_dflt (refine' LSm.sum_ints (by k_asm) (by k_asm) (by rfl) (by is_list) (by assumption) ?_); intro h9 tk9 t9 F9 N9))
local macro_rules | `(tactic| walk_at "call ref") => `(tactic| (k_here; (with_reducible show wpAny _ _ (call (Value.ref 116) _ _) _ _ _); (with_unfolding_all refine' c_cost ?h1 ?h2 ?k1 ?k2 ?k3 ?k4 ?k5 ?k6 ?k8 ?k9 ?_; (case h1 => assumption); (case h2 => assumption); walk_at "cK6"; (case k8 => exact lt_le (b := 2) (k := 2) (by decide) (by assumption)); (case k9 => exact lt_le (b := 11) (k := 16) (by decide) (by assumption))); intro t9 h9 tk9 F9 N9; (try dsimp only)))
local macro_rules | `(tactic| walk_at "call builtin:len") => `(tactic| (k_here; k_dflt (refine' len_word (by omega) ?_)))
theorem c_turns {l : Addr} {vs : List Value} {bs : List UInt64} {n : Nat}
    (B : Below A₀ base outer h₀) (F : Fr h₀ L s.heap m) (X : (hd.heap_1 w.params).In h₀) (N : News h₀ L s.heap news) (T : Top p loose mean mg mb h₀) (hk : cs.kind = .function)
    (hl : (l, W.listOf vs.toArray n) ∈ news) (hf : Fls vs bs) (hlen : vs.length ≤ 100)
    (hdp : dp + 2 < recursionLimit) (hun : un + 16 < cLine)
    (hret : ∀ (t : Tok) (h' : Heap) (tk' : Nat), Fr h₀ L h' m → News h₀ L h' news → Q (.int (turns (wordOf bs)) t) { s with heap := h', toks := tk' }) :
    wpAny (model Pg w) (ktrTop dp un gd cn cs L a ccd cl outer) (call (.ref 145) [.ref l]) Q E s := by
  w_top off
  refine wpAny_call ?_
  k_dflt ktn_open
  k_steps
  rename_i g L1 h1 tk1 FG F1 B1 X1 T1 hN oW dW N1
  unfold Stop
  have hv := hf.length
  refine srcT_list (fun i ys => StrsAre ys ((wordOf (bs.take i)).map fun c => (⟨#[c]⟩ : Str))) rfl F1 N1 (List.mem_cons_of_mem _ hl) (by omega) ?_ StrsAre.nil ?_
  · intro i v I oI C oC D m₂ h tk ys E' hi hvi hC hx F' N' off ne hy
    have hb : bs[i]? = some (bs.getD i 0) := by rw [List.getD_eq_getElem?_getD, List.getElem?_eq_getElem (by omega)]; rfl
    obtain ⟨t, ht, e⟩ := hf.get i _ hb
    rw [hvi] at e
    cases e
    k_steps
    · exact ⟨_, _, rfl, by k_asm, by k_asm, acc_keep hb (by assumption) (chF_t (by assumption)) hy⟩
    · exact ⟨_, _, rfl, by k_asm, by k_asm, acc_keep hb (by assumption) (chF_f (by assumption)) hy⟩
    · exact ⟨_, _, rfl, by k_asm, by k_asm, acc_skip hb (by assumption) hy⟩
  · intro gg ys hy
    rw [List.take_of_length_le (by omega)] at hy
    have hw := wordOf_le bs
    have hwm := @wordOf_mem bs
    generalize wordOf bs = ws at hy hw hwm hret
    k_steps
    unfold Stop
    refine src_range2 (fun i y => ∃ t, y = .int (if ws.getD i 0 = ws.getD (i + 1) 0 then 0 else 1) t) (n := ws.length - 1) rfl (by k_asm) (by k_asm) (by assumption) (by decide) (by decide) (by omega) (by omega) (by omega) ?_ ?_
    · intro i t I oI C oC D m₂ h tk ys E' hi hC hx F' N' off ne
      have hx1 : (Str.mk ws.toArray).cps[((1 : Int) + i - 1).toNat]? = some (ws.getD i 0) := by
        have : ((1 : Int) + i - 1).toNat = i := by omega
        rw [this]; exact word_at (by omega)
      have hx2 : (Str.mk ws.toArray).cps[((1 : Int) + i).toNat]? = some (ws.getD (i + 1) 0) := by
        have : ((1 : Int) + i).toNat = i + 1 := by omega
        rw [this]; exact word_at (by omega)
      have hm1 : ws.getD i 0 = 97 ∨ ws.getD i 0 = 65 := hwm (by rw [List.getD_eq_getElem?_getD, List.getElem?_eq_getElem (by omega)]; exact List.getElem_mem _)
      have hm2 : ws.getD (i + 1) 0 = 97 ∨ ws.getD (i + 1) 0 = 65 := hwm (by rw [List.getD_eq_getElem?_getD, List.getElem?_eq_getElem (by omega)]; exact List.getElem_mem _)
      k_steps
      exact ⟨_, _, rfl, by k_asm, by k_asm, _, rfl⟩
    · intro g2 ys2 hy1 hy2
      have hys : IntsAre ys2 (costs ws) := ints_of_get (by rw [hy1, costs_length]) fun i hi => by
        rw [costs_length] at hi
        obtain ⟨y, hy, t, rfl⟩ := hy2 i hi
        exact ⟨t, by rw [costs_get _ _ hi]; exact hy⟩
      k_steps
      exact hret _ _ _ (by k_asm) (cb_drop (by k_asm) (by kcj_all))
end
end
end PartC4
section PartC8
open PySem PySem.W PySem.Spec PySem.Calls PyProof.Rows
section
section
variable {w : World} {p : Program} {loose : List Str} {mean : ExcName → Option Value} {mg mb : Str → Option Value} {dp un : Nat} {gd : Option (List Code)} {cn : Str} {cs : Scope} {a : Addr} {ccd : Value} {cl : List (Str × Addr)} {outer : List Env} {A₀ : Around} {base h₀ : Heap} {L : Addr} {m : Str → Option Value} {news : List (Addr × Obj)} {s : Shared} {Q E : Value → Shared → Prop}
local macro_rules | `(tactic| walk_at "exec For Name Name cons nil") => `(tactic| (k_here; refine Stop.out ?_))
local macro_rules | `(tactic| walk_at "pyIter str") => `(tactic| (k_here; refine Stop.out ?_))
noncomputable def colS (size : Int) (c : Int) (k : Nat) : Int := if k = 32 then c + 1 else (c.fdiv size + 1) * size
noncomputable def colF (size : Int) (l : List Nat) : Int := l.foldl (colS size) 0
theorem sp_iff (c : Nat) : ((⟨#[c]⟩ : Str) == Str.ofString " ") = decide (c = 32) := by
  have e : Str.ofString " " = ⟨#[32]⟩ := by decide +kernel
  rw [e]
  by_cases h : c = 32
  · subst h; decide
  · simp only [h, decide_false]
    refine beq_eq_false_iff_ne.mpr fun e2 => h ?_
    injection e2 with e3
    simpa using e3
theorem sp_t {c : Nat} (h : ((⟨#[c]⟩ : Str) == Str.ofString " ") = true) : c = 32 := by rw [sp_iff] at h; exact of_decide_eq_true h
theorem sp_f {c : Nat} (h : ((⟨#[c]⟩ : Str) == Str.ofString " ") = false) : ¬ c = 32 := by rw [sp_iff] at h; exact of_decide_eq_false h
theorem fold_take {α β : Type} (f : β → α → β) (z : β) {l : List α} {i : Nat} {a : α} (h : l[i]? = some a) : (l.take (i + 1)).foldl f z = f ((l.take i).foldl f z) a := by
  have ht : l.take (i + 1) = l.take i ++ [a] := by rw [List.take_add_one, h]; rfl
  rw [ht, List.foldl_append]; rfl
theorem c_col {x : Str} {size : Int} {t1 t2 : Tok} (h0 : 0 < size) (h1 : size ≤ 100)
    (B : Below A₀ base outer h₀) (F : Fr h₀ L s.heap m) (X : (hd.heap_1 w.params).In h₀) (N : News h₀ L s.heap news) (T : Top p loose mean mg mb h₀) (hk : cs.kind = .function)
    (hdp : dp + 2 < recursionLimit) (hun : un + 16 < cLine)
    (hret : ∀ (t : Tok) (h' : Heap) (tk' : Nat), Fr h₀ L h' m → News h₀ L h' news → Q (.int (colF size x.cps.toList) t) { s with heap := h', toks := tk' }) :
    wpAny (model Pg w) (ktrTop dp un gd cn cs L a ccd cl outer) (call (.ref 123) [.str x t1, .int size t2]) Q E s := by
  w_top off
  refine wpAny_call ?_
  k_dflt ktn_open
  k_steps
  unfold Stop
  refine For_invVF (by k_asm) rfl rfl ?_
  k_steps
  unfold Stop
  refine for_str (fun i m' led => led = news ∧ (∃ t, m' "column" = some (.int ((x.cps.toList.take i).foldl (colS size) 0) t)) ∧ ∃ t, m' "size" = some (.int size t)) rfl (by k_asm) (by k_asm) ⟨rfl, ⟨_, if_pos rfl⟩, _, rfl⟩ ?_ ?_
  · rintro i c u m₁ news₁ h tk I oI hi hc ⟨rfl, ⟨t3, e1⟩, t4, e2⟩ ho hlt F1 N1
    have hstep := fold_take (colS size) 0 (l := x.cps.toList) (i := i) (a := c) (by simpa using hc)
    generalize (x.cps.toList.take i).foldl (colS size) 0 = k at e1 hstep
    k_steps
    · have hc32 : c = 32 := sp_t (by assumption)
      have e3 : colS size k c = k + 1 := by unfold colS; rw [if_pos hc32]
      exact ⟨_, _, _, _, rfl, by k_asm, by k_asm, by assumption, rfl, ⟨_, by rw [hstep, e3]; exact if_pos rfl⟩, _, by ktr_rel⟩
    · have hc32 : ¬ c = 32 := sp_f (by assumption)
      have e3 : colS size k c = (k.fdiv size + 1) * size := by unfold colS; rw [if_neg hc32]
      exact ⟨_, _, _, _, rfl, by k_asm, by k_asm, by assumption, rfl, ⟨_, by rw [hstep, e3]; exact if_pos rfl⟩, _, by ktr_rel⟩
  · rintro h' tk m' news' F' N' ⟨rfl, ⟨t3, e1⟩, _⟩
    rw [List.take_of_length_le (by simp)] at e1
    k_steps
    exact hret _ _ _ (by k_asm) (cb_drop (by k_asm) (by kcj_all))
end
end
end PartC8
section PartC9
open PySem PySem.W PySem.Spec PySem.Calls PyProof.Rows
section
section
variable {w : World} {p : Program} {loose : List Str} {mean : ExcName → Option Value} {mg mb : Str → Option Value} {dp un : Nat} {gd : Option (List Code)} {cn : Str} {cs : Scope} {a : Addr} {ccd : Value} {cl : List (Str × Addr)} {outer : List Env} {A₀ : Around} {base h₀ : Heap} {L : Addr} {m : Str → Option Value} {news : List (Addr × Obj)} {s : Shared} {Q E : Value → Shared → Prop}
local macro_rules | `(tactic| k_all) => `(tactic| assumption)
local macro_rules | `(tactic| walk_at "exec For Name Call cons nil") => `(tactic| (k_here; refine Stop.out ?_))
local macro_rules | `(tactic| walk_at "pyIter ref") => `(tactic| (k_here; refine Stop.out ?_))
local macro_rules | `(tactic| walk_at "call builtin:list.append") => `(tactic| (k_here; k_dflt (refine' append_L (by k_asm) (by k_asm) (by k_upd) (by first | assumption | omega) ?_); intro h' F' N'; (try k_sweep)))
local macro_rules | `(tactic| walk_at "call ref") => `(tactic| (k_here; (with_reducible show wpAny _ _ (call (Value.ref 123) _ _) _ _ _); (with_unfolding_all refine' c_col ?h1 ?h2 ?k1 ?k2 ?k3 ?k4 ?k5 ?k6 ?k8 ?k9 ?_; (case h1 => omega); (case h2 => omega); walk_at "cK6"; (case k8 => exact lt_le (b := 3) (k := 3) (by decide) (by assumption)); (case k9 => exact lt_le (b := 19) (k := 60) (by decide) (by assumption))); intro t9 h9 tk9 F9 N9; (try dsimp only)))
theorem c_wit {x y : Str} {most : Nat} {t1 t2 t3 : Tok} (hm : most ≤ 90)
    (B : Below A₀ base outer h₀) (F : Fr h₀ L s.heap m) (X : (hd.heap_1 w.params).In h₀) (N : News h₀ L s.heap news) (T : Top p loose mean mg mb h₀) (hk : cs.kind = .function)
    (hdp : dp + 3 < recursionLimit) (hun : un + 60 < cLine)
    (hret : ∀ (D : Addr) (vs : List Value) (c : Nat) (led : List (Addr × Obj)) (h' : Heap) (tk' : Nat), WitIn led vs (witR (fun k => colF k x.cps.toList) (fun k => colF k y.cps.toList) (most + 1)) → (∀ p ∈ news, p ∈ led) → (∀ p ∈ news, p.1 < D) →
      Fr h₀ L h' m → News h₀ L h' ((D, W.listOf vs.toArray c) :: led) → Q (.ref D) { s with heap := h', toks := tk' }) :
    wpAny (model Pg w) (ktrTop dp un gd cn cs L a ccd cl outer) (call (.ref 130) [.str x t1, .str y t2, .int (most : Int) t3]) Q E s := by
  w_top off
  refine wpAny_call ?_
  k_dflt ktn_open
  k_steps
  unfold Stop
  refine For_invVF (by k_asm) rfl rfl ?_
  k_steps
  rename_i g L1 h1 FG B1 X1 T1 D _ hlt1 _ _ _ h2 tk2 _ _ _ hr F2 N2 _
  unfold Stop
  have hb : ((most : Int) + 2) = (most : Int) + 2 := rfl
  refine for_range (fun i m' led => ∃ vs c led', led = (D, W.listOf vs.toArray c) :: led' ∧ WitIn led' vs (witR (fun k => colF k x.cps.toList) (fun k => colF k y.cps.toList) i) ∧ vs.length ≤ i ∧ (∀ p ∈ news, p ∈ led') ∧ (∀ p ∈ led', @Ne Nat p.1 D) ∧
    m' "rows" = some (.ref D) ∧ (∃ t, m' "upper" = some (.str x t)) ∧ ∃ t, m' "lower" = some (.str y t)) (n := most + 1) rfl F2 N2 hr (by decide) (by decide) (by omega) (by omega) (by omega)
    ⟨[], 0, news, rfl, .nil, Nat.le_refl _, fun _ h => h, fun p hp => Nat.ne_of_lt (hlt1 p hp), if_pos rfl, ⟨_, rfl⟩, _, rfl⟩ ?_ ?_
  · rintro i u m₁ news₁ h tk I oI hi ⟨vs, c, led', rfl, hw, hlen, hsub, hne, e1, ⟨t4, e2⟩, t5, e3⟩ ho hlt F1 N1
    have hDI : @Ne Nat D I := ho _ (.head _)
    have hoI : ∀ p ∈ led', @Ne Nat p.1 I := fun p hp => ho p (.tail _ hp)
    have hwl := witR_length (fun k => colF k x.cps.toList) (fun k => colF k y.cps.toList) i
    k_steps
    · rename_i hneq D2 _ l1 _ _ _
      have hI2 : @Ne Nat D2 I := by have := l1.1; omega
      have hD2 : @Ne Nat D2 D := by have := l1.2.1; omega
      refine ⟨_, _, _, (D, W.listOf (vs ++ [Value.ref D2]).toArray (c + 1)) :: (D2, _) :: led', rfl, by k_asm, cb_drop (by k_asm) (by kcj_all), List.forall_mem_cons.mpr ⟨hDI, List.forall_mem_cons.mpr ⟨hI2, hoI⟩⟩, _, _, _, rfl, ?_, by simp; omega, fun p hp => .tail _ (hsub p hp), List.forall_mem_cons.mpr ⟨hD2, hne⟩, by ktr_rel, ⟨_, by ktr_rel⟩, _, by ktr_rel⟩
      unfold witR
      rw [if_pos hneq]
      exact WitIn.snoc _ _ _ _ _ _ _ (hw.mono fun p hp => .tail _ hp) (.head _)
    · rename_i heq
      refine ⟨_, _, _, (D, W.listOf vs.toArray c) :: led', rfl, by k_asm, by k_asm, List.forall_mem_cons.mpr ⟨hDI, hoI⟩, _, _, _, rfl, ?_, by omega, hsub, hne, by ktr_rel, ⟨_, by ktr_rel⟩, _, by ktr_rel⟩
      unfold witR
      rw [if_neg (fun h => h heq)]
      exact hw
  · rintro h' tk m' news' F' N' ⟨vs, c, led', rfl, hw, hlen, hsub, hne, e1, ⟨t4, e2⟩, t5, e3⟩
    k_steps
    exact hret D vs c led' _ _ hw hsub hlt1 (by k_asm) (by k_asm)
end
end
end PartC9
section PartC10
open PySem PySem.W PySem.Spec PySem.Calls PyProof.Rows
section
section
variable {w : World} {p : Program} {loose : List Str} {mean : ExcName → Option Value} {mg mb : Str → Option Value} {dp un : Nat} {gd : Option (List Code)} {cn : Str} {cs : Scope} {a : Addr} {ccd : Value} {cl : List (Str × Addr)} {outer : List Env} {A₀ : Around} {base h₀ : Heap} {L : Addr} {m : Str → Option Value} {news : List (Addr × Obj)} {s : Shared} {Q E : Value → Shared → Prop}
local macro_rules | `(tactic| k_all) => `(tactic| assumption)
local macro_rules | `(tactic| walk_at "exec For Name Attribute cons nil") => `(tactic| (k_here; refine Stop.out ?_))
local macro_rules | `(tactic| walk_at "pyIter str") => `(tactic| (k_here; refine Stop.out ?_))
local macro_rules | `(tactic| walk_at "call builtin:len") => `(tactic| (k_here; k_dflt (refine' len_at (by is_list) (by first | assumption | omega) ?_)))
local macro_rules | `(tactic| walk_at "binaryOp Mult ref int") => `(tactic| (k_here; refine Stop.out ?_))
local macro_rules | `(tactic| walk_at "binaryOp Add ref ref") => `(tactic| (k_here; refine Stop.out ?_))
local macro_rules | `(tactic| walk_at "call type:tuple") => `(tactic| (k_here; refine Stop.out ?_))
theorem c_ws {x : Str} {t1 : Tok} {lead rest : List Nat} (hx : x.cps.toList = lead ++ 120 :: rest) (hl : ∀ c ∈ lead, c = 32 ∨ c = 9) (hn : lead.length ≤ 90)
    (B : Below A₀ base outer h₀) (F : Fr h₀ L s.heap m) (X : (hd.heap_1 w.params).In h₀) (N : News h₀ L s.heap news) (T : Top p loose mean mg mb h₀) (hk : cs.kind = .function)
    (hdp : dp + 3 < recursionLimit) (hun : un + 60 < cLine)
    (hret : ∀ (D d' T1 T2 : Addr) (vs : List Value) (z : Int) (k1 k2 k3 k4 k5 tz tn tb : Tok) (q : Bool) (h' : Heap) (tk' : Nat), IntsAre vs (wsF lead).1 → (∀ p ∈ news, p.1 < d') → (@LT.lt Nat _ d' D) → (@LT.lt Nat _ D T1) → (@LT.lt Nat _ T1 T2) →
      Fr h₀ L h' m → News h₀ L h' ((T2, { cls := .type "tuple", data := .seq #[.ref T1, .int ((wsF lead).2.1 : Nat) tb] }) :: (T1, { cls := .type "tuple", data := .seq vs.toArray }) :: (D, instObj 105 d') ::
        (d', dictOf [⟨PyData.keyHash w.params (Str.ofString "raw"), .str (Str.ofString "raw") k1, .str x t1⟩, ⟨PyData.keyHash w.params (Str.ofString "n"), .str (Str.ofString "n") k2, .int z tz⟩, ⟨PyData.keyHash w.params (Str.ofString "nt"), .str (Str.ofString "nt") k3, .int ((wsF lead).2.2 : Nat) tn⟩,
          ⟨PyData.keyHash w.params (Str.ofString "norm"), .str (Str.ofString "norm") k4, .ref T2⟩, ⟨PyData.keyHash w.params (Str.ofString "is_simple"), .str (Str.ofString "is_simple") k5, .bool q⟩] 5) :: news) → Q (.ref D) { s with heap := h', toks := tk' }) :
    wpAny (model Pg w) (ktrTop dp un gd cn cs L a ccd cl outer) (call (.ref 105) [.str x t1]) Q E s := by
  w_top off
  k_dflt (refine' call_cls ?k1 ?k2 ?k3 ?k4 ?k5 ?k6 ?_; (case k1 => k_asm); (case k2 => k_asm); (case k3 => k_asm); (case k4 => k_is); (case k5 => k_is); (case k6 => k_is); k_whole; intro x' d' h' F' N' l1 l2; (try k_lt l1); (try k_lt2 l2))
  k_dflt ktn_open
  k_steps
  unfold Stop
  refine For_invVF (by k_asm) rfl rfl ?_
  k_steps
  unfold Stop
  rename_i C _ hltC _ _ _ h2 F2 N2
  obtain ⟨tl, htl, N3⟩ := led_out N2
  have hltl : ∀ p ∈ tl, @Ne Nat p.1 C := by
    subst htl
    intro p hp
    rcases List.mem_cons.mp hp with e | hp
    · have := hltC.2.1; subst e; simp only; omega
    rcases List.mem_cons.mp hp with e | hp
    · have := hltC.2.2.1; subst e; simp only; omega
    exact Nat.ne_of_lt (kst_ltOf hltC.2.2.2 p hp)
  clear N2
  refine for_str (fun i m' led => i ≤ lead.length ∧ ∃ vs c C, led = (C, W.listOf vs.toArray c) :: tl ∧ IntsAre vs (wsF (lead.take i)).1 ∧ (∀ p ∈ tl, @Ne Nat p.1 C) ∧ m' "count" = some (.ref C) ∧ (∃ t, m' "b" = some (.int ((wsF (lead.take i)).2.1 : Nat) t)) ∧
    (∃ z t, m' "n" = some (.int z t)) ∧ (∃ t, m' "nt" = some (.int ((wsF (lead.take i)).2.2 : Nat) t)) ∧ m' "self" = some (.ref x') ∧ (∃ t, m' "S" = some (.str (Str.ofString " ") t)) ∧ ∃ t, m' "T" = some (.str (Str.ofString "\t") t)) rfl F2 N3
    ⟨Nat.zero_le _, [], 0, C, rfl, .nil, hltl, by ktr_rel, ⟨_, by ktr_rel⟩, ⟨_, _, by ktr_rel⟩, ⟨_, by ktr_rel⟩, by first | ktr_rel | rfl, ⟨_, by ktr_rel⟩, _, by ktr_rel⟩ ?_ ?_
  · rintro i c u m₁ news₁ h tk I oI hi hc ⟨hil, vs, cc, C2, rfl, hv, hne, e1, ⟨t4, e2⟩, ⟨z, t5, e3⟩, ⟨t6, e4⟩, e5, ⟨t7, e6⟩, t8, e7⟩ ho hlt F1 N1
    rcases Nat.lt_or_ge i lead.length with hlt2 | hge
    · have hg : lead[i]? = some c := by
        have : x.cps.toList[i]? = some c := by simpa using hc
        rw [hx, List.getElem?_append_left hlt2] at this
        exact this
      have hts : wsF (lead.take (i + 1)) = wsS (wsF (lead.take i)) c := by
        rw [← wsF_snoc]; congr 1; rw [List.take_add_one, hg]; rfl
      have hbd := wsF_bound (lead.take i)
      have hvl : vs.length = (wsF (lead.take i)).1.length := hv.length
      have hvz : vs.length ≤ 100 := by have := hbd.1; rw [List.length_take] at this; omega
      rcases hl c (List.mem_of_getElem? hg) with rfl | rfl
      · k_steps
        have e8 : wsF (lead.take (i + 1)) = ((wsF (lead.take i)).1, (wsF (lead.take i)).2.1 + 1, (wsF (lead.take i)).2.2) := by rw [hts]; rfl
        refine ⟨_, _, _, _, rfl, by k_asm, by k_asm, List.forall_mem_cons.mpr ⟨ho _ (.head _), fun p hp => ho p (.tail _ hp)⟩, hlt2, vs, cc, C2, rfl, by rw [e8]; exact hv, hne, by ktr_rel, ⟨_, by rw [e8]; exact if_pos rfl⟩, ⟨_, _, by ktr_rel⟩, ⟨_, by rw [e8]; ktr_rel⟩, by ktr_rel, ⟨_, by ktr_rel⟩, _, by ktr_rel⟩
      · have hxI : @Ne Nat C2 I := ho _ (.head _)
        have hb100 : (wsF (lead.take i)).2.1 ≤ 90 := by have := hbd.2.1; rw [List.length_take] at this; omega
        have e8 : wsF (lead.take (i + 1)) = (bump (wsF (lead.take i)).1 (wsF (lead.take i)).2.1, 0, (wsF (lead.take i)).2.2 + 1) := by rw [hts]; rfl
        have hoI : ∀ p ∈ tl, @Ne Nat p.1 I := fun p hp => ho p (.tail _ hp)
        generalize wsF (lead.take i) = σ at *
        obtain ⟨cnt, b, nt⟩ := σ
        dsimp only at *
        have hlb : b < (pad cnt b).length := by rw [pad_length]; omega
        have hpl : (pad cnt b).length ≤ 200 := by rw [pad_length]; omega
        k_steps
        · unfold Stop
          refine rep_mul2 (by k_asm) (by k_asm) (by is_list) (by omega) (by omega) ?_
          intro D3 h3 F3 N3 l3
          k_steps
          unfold Stop
          refine add_L (by k_asm) (by k_asm) (by is_list) (by is_list) (by simp; omega) ?_
          intro D4 h4 F4 N4 l4
          have hpe : IntsAre (vs ++ List.replicate ((b : Int) - (vs.length : Int) + 1).toNat (Value.int 0 tk)) (pad cnt b) := by
            rw [hvl, pad_ge (by omega), show ((b : Int) - (cnt.length : Int) + 1).toNat = b - cnt.length + 1 by omega]
            exact ints_append hv (ints_rep _ _)
          k_steps
          rename_i hi9 _ _ _ _ _
          try unfold Stop
          have hne4 : ∀ p ∈ tl, @Ne Nat p.1 D4 := fun p hp => Nat.ne_of_lt (l4 p (by simp [hp]))
          have hI4 : @Ne Nat D4 I := (Nat.ne_of_lt (l4 (I, oI) (by simp))).symm
          refine ⟨_, _, _, (D4, _) :: tl, rfl, by k_asm, cb_drop (by k_asm) (by kcj_all), List.forall_mem_cons.mpr ⟨hI4, hoI⟩, hlt2, _, _, D4, rfl, by rw [e8]; exact hi9, hne4, by ktr_rel, ⟨_, by rw [e8]; exact if_pos rfl⟩, ⟨_, _, by ktr_rel⟩, ⟨_, by rw [e8]; ktr_rel⟩, by ktr_rel, ⟨_, by ktr_rel⟩, _, by ktr_rel⟩
        · rename_i hi9 _ _ _ _ _
          have hpd : pad cnt b = cnt := pad_lt (by omega)
          unfold Stop
          refine ⟨_, _, _, (C2, _) :: tl, rfl, by k_asm, by k_asm, List.forall_mem_cons.mpr ⟨hxI, hoI⟩, hlt2, _, _, C2, rfl, by rw [e8]; unfold bump; rw [hpd]; exact hi9, hne, by ktr_rel, ⟨_, by rw [e8]; exact if_pos rfl⟩, ⟨_, _, by ktr_rel⟩, ⟨_, by rw [e8]; ktr_rel⟩, by ktr_rel, ⟨_, by ktr_rel⟩, _, by ktr_rel⟩
    · have hie : i = lead.length := by omega
      have hc' : c = 120 := by
        have : x.cps.toList[i]? = some c := by simpa using hc
        rw [hx, hie, List.getElem?_append_right (Nat.le_refl _), Nat.sub_self] at this
        exact (Option.some.inj this).symm
      subst hc'
      subst htl
      have hvz : vs.length ≤ 100 := by have := (wsF_bound (lead.take i)).1; have h9 : vs.length = (wsF (lead.take i)).1.length := hv.length; rw [List.length_take] at this; omega
      have hxI : @Ne Nat x' I := ho _ (.tail _ (.head _))
      have hdI : @Ne Nat d' I := ho _ (.tail _ (.tail _ (.head _)))
      have hCI : @Ne Nat C2 I := ho _ (.head _)
      have hxC : @Ne Nat x' C2 := hne _ (.head _)
      have hdC : @Ne Nat d' C2 := hne _ (.tail _ (.head _))
      k_steps
      dsimp only
      unfold Stop
      dsimp only [ForPost]
      k_steps
      unfold Stop
      refine kde_tupleOf (by k_asm) (by k_asm) (by is_list) (by rw [List.size_toArray]; omega) rfl ?_
      intro D6 h6 F6 N6 l6
      k_lt l6
      k_steps
      rename_i D7 _ l7 _ _ _ _ _ _ kN _ _
      have hL : lead.take i = lead := List.take_of_length_le (by omega)
      rw [hL] at hv
      rw [hL] at kN
      refine hret x' d' D6 D7 vs z _ _ _ _ _ t5 t6 t4 _ _ _ hv l1 l2 (by omega) (by have := l7.1; omega) (by k_asm) (cb_drop kN (by kcj_all))
  · rintro h' tk m' news' F' N' ⟨hil, _⟩
    have : x.cps.size = lead.length + rest.length + 1 := by
      have := congrArg List.length hx
      simp at this; omega
    omega
end
end
end PartC10
section PartC11
open PySem PySem.W PySem.Spec PySem.Calls PyProof.Rows
section
noncomputable abbrev wsDict (w : World) (x : Str) (t1 : Tok) (z nt : Int) (T2 : Addr) (q : Bool) (k1 k2 k3 k4 k5 tz tn : Tok) : Obj :=
  dictOf [⟨PyData.keyHash w.params (Str.ofString "raw"), .str (Str.ofString "raw") k1, .str x t1⟩, ⟨PyData.keyHash w.params (Str.ofString "n"), .str (Str.ofString "n") k2, .int z tz⟩, ⟨PyData.keyHash w.params (Str.ofString "nt"), .str (Str.ofString "nt") k3, .int nt tn⟩,
          ⟨PyData.keyHash w.params (Str.ofString "norm"), .str (Str.ofString "norm") k4, .ref T2⟩, ⟨PyData.keyHash w.params (Str.ofString "is_simple"), .str (Str.ofString "is_simple") k5, .bool q⟩] 5
section
variable {w : World} {p : Program} {loose : List Str} {mean : ExcName → Option Value} {mg mb : Str → Option Value} {dp un : Nat} {gd : Option (List Code)} {cn : Str} {cs : Scope} {a : Addr} {ccd : Value} {cl : List (Str × Addr)} {outer : List Env} {A₀ : Around} {base h₀ : Heap} {L : Addr} {m : Str → Option Value} {news : List (Addr × Obj)} {s : Shared} {Q E : Value → Shared → Prop}
local macro_rules | `(tactic| k_all) => `(tactic| assumption)
local macro_rules | `(tactic| walk_at "exec For Name Call cons nil") => `(tactic| (k_here; refine Stop.out ?_))
local macro_rules | `(tactic| walk_at "pyIter ref") => `(tactic| (k_here; refine Stop.out ?_))
local macro_rules | `(tactic| walk_at "call builtin:len") => `(tactic| (k_here; k_dflt (refine' len_tup (by exact News.isTup (by k_asm) (by k_mem)) (by assumption) ?_)))
local macro_rules | `(tactic| walk_at "call builtin:max") => `(tactic| (k_here; k_dflt (refine' max_int (by rfl) (by k_asm) (by k_asm) ?_); intro t9 h9 tk9 F9 N9))
theorem if_max (a b : Int) : (if b > a then b else a) = max a b := by split <;> omega
theorem c_long {x : Str} {o d T1 T2 : Addr} {cnt : List Int} {b nt : Nat} {vs : List Value} {z : Int} {t1 k1 k2 k3 k4 k5 tz tn tb : Tok} {q : Bool} (hv : IntsAre vs cnt) (hz : cnt.length ≤ 100)
    (B : Below A₀ base outer h₀) (F : Fr h₀ L s.heap m) (X : (hd.heap_1 w.params).In h₀) (N : News h₀ L s.heap ((T2, tupO [.ref T1, .int (b : Nat) tb]) :: (T1, tupO vs) :: (o, instObj 105 d) :: (d, wsDict w x t1 z nt T2 q k1 k2 k3 k4 k5 tz tn) :: news)) (T : Top p loose mean mg mb h₀) (hk : cs.kind = .function)
    (hdp : dp + 3 < recursionLimit) (hun : un + 60 < cLine)
    (hret : ∀ (t : Tok) (h' : Heap) (tk' : Nat), Fr h₀ L h' m → News h₀ L h' ((T2, tupO [.ref T1, .int (b : Nat) tb]) :: (T1, tupO vs) :: (o, instObj 105 d) :: (d, wsDict w x t1 z nt T2 q k1 k2 k3 k4 k5 tz tn) :: news) → Q (.int (max ((cnt.length : Int) - 1) b) t) { s with heap := h', toks := tk' }) :
    wpAny (model Pg w) (ktrTop dp un gd cn cs L a ccd cl outer) (call (.ref 67) [.ref o]) Q E s := by
  w_top off
  refine wpAny_call ?_
  k_dflt ktn_open
  have hvl : vs.length = cnt.length := hv.length
  have hvz : vs.length ≤ 100000 := by omega
  k_steps
  rw [← hvl] at hret
  try rw [if_max]
  exact hret _ _ _ (by k_asm) (by k_asm)
end
end
end PartC11
section PartC12
open PySem PySem.W PySem.Spec PySem.Calls PyProof.Rows
section
noncomputable def ilF (ts : Int) (cnt : List Int) : Nat → Int
  | 0 => 0
  | j + 1 => ilF ts cnt j + (ts + (j : Int)).fdiv ts * cnt.getD (ts + (j : Int)).toNat 0
noncomputable def indF (ts : Int) (σ : WS) : Int := (σ.2.1 : Int) + ts * (ilF ts σ.1 ((σ.1.length : Int) - ts).toNat + (σ.2.2 : Int))
section
variable {w : World} {p : Program} {loose : List Str} {mean : ExcName → Option Value} {mg mb : Str → Option Value} {dp un : Nat} {gd : Option (List Code)} {cn : Str} {cs : Scope} {a : Addr} {ccd : Value} {cl : List (Str × Addr)} {outer : List Env} {A₀ : Around} {base h₀ : Heap} {L : Addr} {m : Str → Option Value} {news : List (Addr × Obj)} {s : Shared} {Q E : Value → Shared → Prop}
local macro_rules | `(tactic| walk_at "pad") => `(tactic| fail "pad")
local macro_rules | `(tactic| k_all) => `(tactic| assumption)
local macro_rules | `(tactic| walk_at "exec For Name Call cons nil") => `(tactic| (k_here; refine Stop.out ?_))
local macro_rules | `(tactic| walk_at "pyIter ref") => `(tactic| (k_here; refine Stop.out ?_))
local macro_rules | `(tactic| walk_at "call builtin:len") => `(tactic| (k_here; k_dflt (refine' len_tup (by exact News.isTup (by k_asm) (by k_mem)) (by assumption) ?_)))
local macro_rules | `(tactic| walk_at "subscriptTail Name Name") => `(tactic| (k_here; refine Stop.out ?_))
theorem c_ind {x : Str} {o d T1 T2 : Addr} {cnt : List Int} {b nt : Nat} {vs : List Value} {z ts : Int} {t1 k1 k2 k3 k4 k5 tz tn tb tt : Tok} {q : Bool} (hv : IntsAre vs cnt) (hz : cnt.length ≤ 100) (hts : 0 < ts) (hts1 : ts ≤ 100)
    (B : Below A₀ base outer h₀) (F : Fr h₀ L s.heap m) (X : (hd.heap_1 w.params).In h₀) (N : News h₀ L s.heap ((T2, tupO [.ref T1, .int (b : Nat) tb]) :: (T1, tupO vs) :: (o, instObj 105 d) :: (d, wsDict w x t1 z nt T2 q k1 k2 k3 k4 k5 tz tn) :: news)) (T : Top p loose mean mg mb h₀) (hk : cs.kind = .function)
    (hdp : dp + 3 < recursionLimit) (hun : un + 60 < cLine)
    (hret : ∀ (t : Tok) (h' : Heap) (tk' : Nat), Fr h₀ L h' m → News h₀ L h' ((T2, tupO [.ref T1, .int (b : Nat) tb]) :: (T1, tupO vs) :: (o, instObj 105 d) :: (d, wsDict w x t1 z nt T2 q k1 k2 k3 k4 k5 tz tn) :: news) → Q (.int (indF ts (cnt, b, nt)) t) { s with heap := h', toks := tk' }) :
    wpAny (model Pg w) (ktrTop dp un gd cn cs L a ccd cl outer) (call (.ref 74) [.ref o, .int ts tt]) Q E s := by
  w_top off
  refine wpAny_call ?_
  k_dflt ktn_open
  have hvl : vs.length = cnt.length := hv.length
  have hvz : vs.length ≤ 100000 := by omega
  k_steps
  unfold Stop
  refine For_invVF (by k_asm) rfl rfl ?_
  k_steps
  rename_i F2 N2 _
  obtain ⟨tl, htl, N3⟩ := led_tl N2
  unfold Stop
  refine for_range (fun i m' led => led = (T2, tupO [.ref T1, .int (b : Nat) tb]) :: tl ∧ (∃ t, m' "il" = some (.int (ilF ts cnt i) t)) ∧ m' "count" = some (.ref T1) ∧ m' "self" = some (.ref o) ∧ (∃ t, m' "tabsize" = some (.int ts t)) ∧ ∃ t, m' "trailing" = some (.int b t)) (n := ((cnt.length : Int) - ts).toNat) rfl F2 N3 (by assumption) (by omega) (by omega) (by omega) (by omega) (by first | rfl | rw [hvl]) ⟨rfl, ⟨_, if_pos rfl⟩, by ktr_rel, by first | ktr_rel | rfl, ⟨_, rfl⟩, _, by ktr_rel⟩ ?_ ?_
  · rintro i u m₁ news₁ h tk I oI hi ⟨rfl, ⟨t4, e1⟩, e2, e3, ⟨t5, e4⟩, t6, e5⟩ ho hlt F1 N1
    subst htl
    k_steps
    unfold Stop
    have hi2 : (ts + (i : Int)).toNat < cnt.length := by omega
    have hv9 : IntsAre vs cnt := by assumption
    obtain ⟨t7, hx7⟩ := ints_get hv9 _ hi2
    refine item_tup (vs := vs) ?q1 (by omega) (by omega) (by omega) hx7 ?_
    case q1 => exact News.isTup N1 (List.Mem.tail _ (List.Mem.tail _ (List.Mem.head _)))
    try dsimp only
    have hfd0 : (ts + (i : Int)).fdiv ts = (ts + (i : Int)) / ts := Int.fdiv_eq_ediv_of_nonneg _ (by omega)
    have hfd1 : (ts + (i : Int)).fdiv ts ≤ 300 := by rw [hfd0]; exact Int.le_trans (Int.ediv_le_self _ (by omega)) (by omega)
    have hfd2 : 0 ≤ (ts + (i : Int)).fdiv ts := by rw [hfd0]; exact Int.ediv_nonneg (by omega) (by omega)
    clear hfd0
    k_steps
    have hnI : ∀ p ∈ ((T2, tupO [.ref T1, .int (b : Nat) tb]) :: (T1, tupO vs) :: (o, instObj 105 d) :: (d, wsDict w x t1 z nt T2 q k1 k2 k3 k4 k5 tz tn) :: news), @Ne Nat p.1 I := ho
    exact ⟨_, _, _, _, rfl, by k_asm, by k_asm, hnI, rfl, ⟨_, if_pos rfl⟩, by ktr_rel, by ktr_rel, ⟨_, by ktr_rel⟩, _, by ktr_rel⟩
  · rintro h' tk m' news' F' N' ⟨rfl, ⟨t4, e1⟩, e2, e3, ⟨t5, e4⟩, t6, e5⟩
    subst htl
    k_steps
    exact hret _ _ _ (by k_asm) (by k_asm)
end
end
end PartC12
section PartC13
open PySem PySem.W PySem.Spec PySem.Calls PyProof.Rows
section
section
variable {w : World} {p : Program} {loose : List Str} {mean : ExcName → Option Value} {mg mb : Str → Option Value} {dp un : Nat} {gd : Option (List Code)} {cn : Str} {cs : Scope} {a : Addr} {ccd : Value} {cl : List (Str × Addr)} {outer : List Env} {A₀ : Around} {base h₀ : Heap} {L : Addr} {m : Str → Option Value} {news : List (Addr × Obj)} {s : Shared} {Q E : Value → Shared → Prop}
theorem news_mem4 {h₀ h : Heap} {L : Addr} {news : List (Addr × Obj)} {a b c d : Addr × Obj} (N : News h₀ L h news) (h1 : a ∈ news) (h2 : b ∈ news) (h3 : c ∈ news) (h4 : d ∈ news) : News h₀ L h (a :: b :: c :: d :: news) := fun p hp => by
  rcases List.mem_cons.mp hp with e | hp
  · exact e ▸ N _ h1
  rcases List.mem_cons.mp hp with e | hp
  · exact e ▸ N _ h2
  rcases List.mem_cons.mp hp with e | hp
  · exact e ▸ N _ h3
  rcases List.mem_cons.mp hp with e | hp
  · exact e ▸ N _ h4
  exact N _ hp
theorem news_drop4 {h₀ h : Heap} {L : Addr} {news : List (Addr × Obj)} {a b c d : Addr × Obj} (N : News h₀ L h (a :: b :: c :: d :: news)) : News h₀ L h news := fun p hp => N p (.tail _ (.tail _ (.tail _ (.tail _ hp))))
theorem c_long2 {x : Str} {o d T1 T2 : Addr} {cnt : List Int} {b nt : Nat} {vs : List Value} {z : Int} {t1 k1 k2 k3 k4 k5 tz tn tb : Tok} {q : Bool} (hv : IntsAre vs cnt) (hz : cnt.length ≤ 100)
    (m1 : (T2, tupO [.ref T1, .int (b : Nat) tb]) ∈ news) (m2 : (T1, tupO vs) ∈ news) (m3 : (o, instObj 105 d) ∈ news) (m4 : (d, wsDict w x t1 z nt T2 q k1 k2 k3 k4 k5 tz tn) ∈ news)
    (B : Below A₀ base outer h₀) (F : Fr h₀ L s.heap m) (X : (hd.heap_1 w.params).In h₀) (N : News h₀ L s.heap news) (T : Top p loose mean mg mb h₀) (hk : cs.kind = .function)
    (hdp : dp + 3 < recursionLimit) (hun : un + 60 < cLine)
    (hret : ∀ (t : Tok) (h' : Heap) (tk' : Nat), Fr h₀ L h' m → News h₀ L h' news → Q (.int (max ((cnt.length : Int) - 1) b) t) { s with heap := h', toks := tk' }) :
    wpAny (model Pg w) (ktrTop dp un gd cn cs L a ccd cl outer) (call (.ref 67) [.ref o]) Q E s :=
  c_long hv hz B F X (news_mem4 N m1 m2 m3 m4) T hk hdp hun fun t h' tk' F' N' => hret t h' tk' F' (news_drop4 N')
theorem c_ind2 {x : Str} {o d T1 T2 : Addr} {cnt : List Int} {b nt : Nat} {vs : List Value} {z ts : Int} {t1 k1 k2 k3 k4 k5 tz tn tb tt : Tok} {q : Bool} (hv : IntsAre vs cnt) (hz : cnt.length ≤ 100) (hts : 0 < ts) (hts1 : ts ≤ 100)
    (m1 : (T2, tupO [.ref T1, .int (b : Nat) tb]) ∈ news) (m2 : (T1, tupO vs) ∈ news) (m3 : (o, instObj 105 d) ∈ news) (m4 : (d, wsDict w x t1 z nt T2 q k1 k2 k3 k4 k5 tz tn) ∈ news)
    (B : Below A₀ base outer h₀) (F : Fr h₀ L s.heap m) (X : (hd.heap_1 w.params).In h₀) (N : News h₀ L s.heap news) (T : Top p loose mean mg mb h₀) (hk : cs.kind = .function)
    (hdp : dp + 3 < recursionLimit) (hun : un + 60 < cLine)
    (hret : ∀ (t : Tok) (h' : Heap) (tk' : Nat), Fr h₀ L h' m → News h₀ L h' news → Q (.int (indF ts (cnt, b, nt)) t) { s with heap := h', toks := tk' }) :
    wpAny (model Pg w) (ktrTop dp un gd cn cs L a ccd cl outer) (call (.ref 74) [.ref o, .int ts tt]) Q E s :=
  c_ind hv hz hts hts1 B F X (news_mem4 N m1 m2 m3 m4) T hk hdp hun fun t h' tk' F' N' => hret t h' tk' F' (news_drop4 N')
local macro_rules | `(tactic| walk_at "pad") => `(tactic| fail "pad")
local macro_rules | `(tactic| k_all) => `(tactic| assumption)
local macro_rules | `(tactic| walk_at "exec For Name Call cons nil") => `(tactic| (k_here; refine Stop.out ?_))
local macro_rules | `(tactic| walk_at "pyIter ref") => `(tactic| (k_here; refine Stop.out ?_))
local macro_rules | `(tactic| walk_at "call ref") => `(tactic| (k_here; (with_reducible show wpAny _ _ (call (Value.ref 67) _ _) _ _ _); (with_unfolding_all refine' c_long2 ?hv ?hz ?m1 ?m2 ?m3 ?m4 ?k1 ?k2 ?k3 ?k4 ?k5 ?k6 ?k8 ?k9 ?_; walk_at "cK"; (case m3 => assumption); (case m4 => assumption); (case m1 => assumption); (case m2 => assumption); (case hv => assumption); (case hz => omega); (case k6 => first | exact rfl | assumption); (case k8 => exact lt_le (b := 4) (k := 4) (by decide) (by assumption)); (case k9 => exact lt_le (b := 63) (k := 120) (by decide) (by assumption))); intro t9 h9 tk9 F9 N9; (try dsimp only)))
local macro_rules | `(tactic| walk_at "call ref") => `(tactic| (k_here; (with_reducible show wpAny _ _ (call (Value.ref 74) _ _) _ _ _); (with_unfolding_all refine' c_ind2 ?hv ?hz ?ht ?hu ?m1 ?m2 ?m3 ?m4 ?k1 ?k2 ?k3 ?k4 ?k5 ?k6 ?k8 ?k9 ?_; walk_at "cK"; (case m3 => assumption); (case m4 => assumption); (case m1 => assumption); (case m2 => assumption); (case hv => assumption); (case hz => omega); (case ht => omega); (case hu => omega); (case k6 => first | exact rfl | assumption); (case k8 => exact lt_le (b := 4) (k := 4) (by decide) (by assumption)); (case k9 => exact lt_le (b := 63) (k := 120) (by decide) (by assumption))); intro t9 h9 tk9 F9 N9; (try dsimp only)))
local macro_rules | `(tactic| walk_at "call builtin:list.append") => `(tactic| (k_here; k_dflt (refine' append_L (by k_asm) (by k_asm) (by k_upd) (by first | assumption | omega) ?_); intro h' F' N'; (try k_sweep)))
theorem c_neq {x x' : Str} {o d T1 T2 o' d' T1' T2' : Addr} {cnt cnt' : List Int} {b nt b' nt' : Nat} {vs vs' : List Value} {z z' : Int} {t1 k1 k2 k3 k4 k5 tz tn tb t1' k1' k2' k3' k4' k5' tz' tn' tb' : Tok} {q q' : Bool}
    (hv : IntsAre vs cnt) (hz : cnt.length ≤ 80) (hv' : IntsAre vs' cnt') (hz' : cnt'.length ≤ 80) (hb : b ≤ 80) (hb' : b' ≤ 80)
    (m1 : (T2, tupO [.ref T1, .int (b : Nat) tb]) ∈ news) (m2 : (T1, tupO vs) ∈ news) (m3 : (o, instObj 105 d) ∈ news) (m4 : (d, wsDict w x t1 z nt T2 q k1 k2 k3 k4 k5 tz tn) ∈ news)
    (m1' : (T2', tupO [.ref T1', .int (b' : Nat) tb']) ∈ news) (m2' : (T1', tupO vs') ∈ news) (m3' : (o', instObj 105 d') ∈ news) (m4' : (d', wsDict w x' t1' z' nt' T2' q' k1' k2' k3' k4' k5' tz' tn') ∈ news)
    (B : Below A₀ base outer h₀) (F : Fr h₀ L s.heap m) (X : (hd.heap_1 w.params).In h₀) (N : News h₀ L s.heap news) (T : Top p loose mean mg mb h₀) (hk : cs.kind = .function)
    (hdp : dp + 4 < recursionLimit) (hun : un + 120 < cLine)
    (hret : ∀ (D : Addr) (us : List Value) (c : Nat) (led : List (Addr × Obj)) (h' : Heap) (tk' : Nat), WitIn led us (witR (fun k => indF k (cnt, b, nt)) (fun k => indF k (cnt', b', nt')) (max (max ((cnt.length : Int) - 1) b) (max ((cnt'.length : Int) - 1) b') + 1).toNat) → (∀ p ∈ news, p ∈ led) → (∀ p ∈ news, p.1 < D) →
      Fr h₀ L h' m → News h₀ L h' ((D, W.listOf us.toArray c) :: led) → Q (.ref D) { s with heap := h', toks := tk' }) :
    wpAny (model Pg w) (ktrTop dp un gd cn cs L a ccd cl outer) (call (.ref 88) [.ref o, .ref o']) Q E s := by
  w_top off
  refine wpAny_call ?_
  k_dflt ktn_open
  k_steps
  rename_i D _ hltD _ F2 N2
  try rw [if_max] at F2
  have hM0 : 0 ≤ max (max ((cnt.length : Int) - 1) b) (max ((cnt'.length : Int) - 1) b') := Int.le_trans (Int.natCast_nonneg b) (Int.le_trans (Int.le_max_right _ _) (Int.le_max_left _ _))
  have hM1 : max (max ((cnt.length : Int) - 1) b) (max ((cnt'.length : Int) - 1) b') ≤ 80 := by omega
  generalize max (max ((cnt.length : Int) - 1) b) (max ((cnt'.length : Int) - 1) b') = M at *
  unfold Stop
  refine For_invVF F2 rfl rfl ?_
  k_steps
  unfold Stop
  refine for_range (fun i m' led => ∃ us c led', led = (D, W.listOf us.toArray c) :: led' ∧ WitIn led' us (witR (fun k => indF k (cnt, b, nt)) (fun k => indF k (cnt', b', nt')) i) ∧ us.length ≤ i ∧ (∀ p ∈ news, p ∈ led') ∧ (∀ p ∈ led', @Ne Nat p.1 D) ∧
    m' "a" = some (.ref D) ∧ m' "self" = some (.ref o) ∧ m' "other" = some (.ref o')) (n := (M + 1).toNat) rfl (by k_asm) (by k_asm) (by assumption) (by decide) (by decide) (by omega) (by omega) (by omega)
    ⟨[], 0, news, rfl, .nil, Nat.le_refl _, fun _ h => h, fun p hp => Nat.ne_of_lt (hltD p hp), if_pos rfl, rfl, rfl⟩ ?_ ?_
  · rintro i u m₁ news₁ h tk I oI hi ⟨us, c, led', rfl, hw, hlen, hsub, hne, e1, e2, e3⟩ ho hlt F1 N1
    have hDI : @Ne Nat D I := ho _ (.head _)
    have hoI : ∀ p ∈ led', @Ne Nat p.1 I := fun p hp => ho p (.tail _ hp)
    have n1 : _ ∈ (I, oI) :: (D, W.listOf us.toArray c) :: led' := .tail _ (.tail _ (hsub _ m1))
    have n2 : _ ∈ (I, oI) :: (D, W.listOf us.toArray c) :: led' := .tail _ (.tail _ (hsub _ m2))
    have n3 : _ ∈ (I, oI) :: (D, W.listOf us.toArray c) :: led' := .tail _ (.tail _ (hsub _ m3))
    have n4 : _ ∈ (I, oI) :: (D, W.listOf us.toArray c) :: led' := .tail _ (.tail _ (hsub _ m4))
    have n1' : _ ∈ (I, oI) :: (D, W.listOf us.toArray c) :: led' := .tail _ (.tail _ (hsub _ m1'))
    have n2' : _ ∈ (I, oI) :: (D, W.listOf us.toArray c) :: led' := .tail _ (.tail _ (hsub _ m2'))
    have n3' : _ ∈ (I, oI) :: (D, W.listOf us.toArray c) :: led' := .tail _ (.tail _ (hsub _ m3'))
    have n4' : _ ∈ (I, oI) :: (D, W.listOf us.toArray c) :: led' := .tail _ (.tail _ (hsub _ m4'))
    k_steps
    · have hneq : indF (1 + (i : Int)) (cnt, b, nt) ≠ indF (1 + (i : Int)) (cnt', b', nt') := by assumption
      rename_i D2 _ l1 _ _ _
      have hI2 : @Ne Nat D2 I := by have := l1.1; omega
      have hD2 : @Ne Nat D2 D := by have := l1.2.1; omega
      refine ⟨_, _, _, (D, W.listOf (us ++ [Value.ref D2]).toArray (c + 1)) :: (D2, _) :: led', rfl, by k_asm, cb_drop (by k_asm) (by kcj_all), List.forall_mem_cons.mpr ⟨hDI, List.forall_mem_cons.mpr ⟨hI2, hoI⟩⟩, _, _, _, rfl, ?_, by simp; omega, fun p hp => .tail _ (hsub p hp), List.forall_mem_cons.mpr ⟨hD2, hne⟩, by ktr_rel, by ktr_rel, by ktr_rel⟩
      unfold witR
      rw [if_pos hneq]
      exact WitIn.snoc _ _ _ _ _ _ _ (hw.mono fun p hp => .tail _ hp) (.head _)
    · have heq : indF (1 + (i : Int)) (cnt, b, nt) = indF (1 + (i : Int)) (cnt', b', nt') := by assumption
      refine ⟨_, _, _, (D, W.listOf us.toArray c) :: led', rfl, by k_asm, by k_asm, List.forall_mem_cons.mpr ⟨hDI, hoI⟩, _, _, _, rfl, ?_, by omega, hsub, hne, by ktr_rel, by ktr_rel, by ktr_rel⟩
      unfold witR
      rw [if_neg (fun h => h heq)]
      exact hw
  · rintro h' tk m' news' F' N' ⟨us, c, led', rfl, hw, hlen, hsub, hne, e1, e2, e3⟩
    k_steps
    exact hret D us c led' _ _ hw hsub hltD (by k_asm) (by k_asm)
end
end
end PartC13
end Walks
section PartPL5
set_option exponentiation.threshold 2000
section
namespace Dya
open PySem PySem.Float64
noncomputable def hueB (z : UInt64) : Bool := ((divmod z 4607182418800017408).snd == z) && (cmp z 4595172819793696085 == some Ordering.lt)
theorem hue_of {z : UInt64} (h : hueB z = true) : Hue z := by
  unfold hueB at h
  simp only [Bool.and_eq_true] at h
  exact ⟨by simpa using h.1, h.2⟩
theorem hue_all1 : ((List.range 11).all fun n => n == 0 || hueB (ofFrac false n 64)) = true := by decide +kernel
theorem hue_all2 : ((List.range 101).all fun n => n == 0 || hueB (ofFrac false (6 * n) 4096)) = true := by decide +kernel
theorem hue_one {n : Nat} (h1 : 1 ≤ n) (h2 : n ≤ 10) : Hue (ofFrac false n 64) := by
  have := List.all_eq_true.mp hue_all1 n (List.mem_range.mpr (by omega))
  simp only [Bool.or_eq_true] at this
  rcases this with h | h
  · have : n = 0 := by simpa using h
    omega
  · exact hue_of h
theorem hue_two {n : Nat} (h1 : 1 ≤ n) (h2 : n ≤ 100) : Hue (ofFrac false (6 * n) 4096) := by
  have := List.all_eq_true.mp hue_all2 n (List.mem_range.mpr (by omega))
  simp only [Bool.or_eq_true] at this
  rcases this with h | h
  · have : n = 0 := by simpa using h
    omega
  · exact hue_of h
/-- digits of the powers -/
theorem dig_all : ((List.range 11).all fun o => o == 0 || (
    let s : Int := 3 * o; let x : Int := 32 - s + s * 65536; let r : Int := 32 - s
    decide (dgt x 0 0 = 1 ∧ dgt x 1 0 = r ∧ dgt x 1 1 = s ∧ dgt x 2 0 = r * r ∧ dgt x 2 1 = 2 * r * s ∧ dgt x 2 2 = s * s ∧ dgt x 3 0 = r * r * r ∧ dgt x 3 1 = 3 * r * r * s ∧ dgt x 3 2 = 3 * r * s * s ∧ dgt x 3 3 = s * s * s))) = true := by decide +kernel
theorem dig_ok {o : Nat} (h1 : 1 ≤ o) (h2 : o ≤ 10) {s x r : Int} (hs : s = 3 * (o : Int)) (hx : x = 32 - s + s * 65536) (hr : r = 32 - s) :
    dgt x 0 0 = 1 ∧ dgt x 1 0 = r ∧ dgt x 1 1 = s ∧ dgt x 2 0 = r * r ∧ dgt x 2 1 = 2 * r * s ∧ dgt x 2 2 = s * s ∧ dgt x 3 0 = r * r * r ∧ dgt x 3 1 = 3 * r * r * s ∧ dgt x 3 2 = 3 * r * s * s ∧ dgt x 3 3 = s * s * s := by
  have := List.all_eq_true.mp dig_all o (List.mem_range.mpr (by omega))
  simp only [Bool.or_eq_true] at this
  subst hr; subst hx; subst hs
  rcases this with h | h
  · have : o = 0 := by simpa using h
    omega
  · exact of_decide_eq_true h
end Dya
end
end PartPL5
section PartPL6
set_option exponentiation.threshold 2000
section
namespace Dya
open PySem PySem.Float64
theorem idA (a b p0 p1 : Int) : bl 64 (6 * b) (p0 * 2 ^ 18) (bl 64 (6 * a) p0 p1 * 2 ^ 12) * 2 ^ 12 = bl 4096 (6 * (6 * a * b)) p0 p1 * 2 ^ 24 := by
  unfold bl; grind
theorem idB (a b p0 p1 p2 : Int) : bl 64 (6 * b) (bl 64 (6 * b) (p0 * 2 ^ 18) (bl 64 (6 * a) p0 p1 * 2 ^ 12)) (bl 64 (6 * b) (bl 64 (6 * a) p0 p1 * 2 ^ 12) (bl 64 (6 * a) (bl 64 (6 * a) p0 p1) (bl 64 (6 * a) p1 p2) * 2 ^ 6)) * 2 ^ 6
   = bl 4096 (6 * (6 * a * b)) (bl 4096 (6 * (6 * a * b)) p0 p1) (bl 4096 (6 * (6 * a * b)) p1 p2) * 2 ^ 12 := by
  unfold bl; grind
theorem idC (a b p0 p1 p2 p3 : Int) : bl 64 (6 * b) (bl 64 (6 * b) (bl 64 (6 * b) (p0 * 2 ^ 18) (bl 64 (6 * a) p0 p1 * 2 ^ 12)) (bl 64 (6 * b) (bl 64 (6 * a) p0 p1 * 2 ^ 12) (bl 64 (6 * a) (bl 64 (6 * a) p0 p1) (bl 64 (6 * a) p1 p2) * 2 ^ 6)))
     (bl 64 (6 * b) (bl 64 (6 * b) (bl 64 (6 * a) p0 p1 * 2 ^ 12) (bl 64 (6 * a) (bl 64 (6 * a) p0 p1) (bl 64 (6 * a) p1 p2) * 2 ^ 6))
       (bl 64 (6 * b) (bl 64 (6 * a) (bl 64 (6 * a) p0 p1) (bl 64 (6 * a) p1 p2) * 2 ^ 6) (bl 64 (6 * a) (bl 64 (6 * a) (bl 64 (6 * a) p0 p1) (bl 64 (6 * a) p1 p2)) (bl 64 (6 * a) (bl 64 (6 * a) p1 p2) (bl 64 (6 * a) p2 p3)))))
   = bl 4096 (6 * (6 * a * b)) (bl 4096 (6 * (6 * a * b)) (bl 4096 (6 * (6 * a * b)) p0 p1) (bl 4096 (6 * (6 * a * b)) p1 p2)) (bl 4096 (6 * (6 * a * b)) (bl 4096 (6 * (6 * a * b)) p1 p2) (bl 4096 (6 * (6 * a * b)) p2 p3)) := by
  unfold bl; grind
theorem eq_of_dy {k j c d : Nat} {a b : Int} {x y : UInt64} (hx : Dy k a x) (hy : Dy j b y) (hk : k + c = 36) (hj : j + d = 36) (h : a * 2 ^ c = b * 2 ^ d) : (cmp x y == some Ordering.eq) = true := by
  have h1 := dy_scale c hx (by omega)
  have h2 := dy_scale d hy (by omega)
  rw [hk] at h1
  rw [hj, ← h] at h2
  rw [dy_cmp h1 h2, Int.compare_eq_eq.mpr rfl]
  rfl
theorem scale_le {X M c : Int} (hc : 0 ≤ c) (h : -M ≤ X ∧ X ≤ M) : -(M * c) ≤ X * c ∧ X * c ≤ M * c := by
  have e1 := Int.mul_le_mul_of_nonneg_right h.1 hc
  have e2 := Int.mul_le_mul_of_nonneg_right h.2 hc
  rw [Int.neg_mul] at e1
  exact ⟨e1, e2⟩
structure Plain (p0 p1 p2 p3 : Int) (o1 o2 : Nat) (z1 z2 z3 b0 b1 b2 b3 : UInt64) : Prop where
  eqs : ∀ j, j < 4 → (cmp ((firsts z2 4 (firsts z1 4 [b0, b1, b2, b3])).getD j 0) ((firsts z3 4 [b0, b1, b2, b3]).getD j 0) == some Ordering.eq) = true
  t1 : turns (wordOf (firsts z2 4 (firsts z1 4 [b0, b1, b2, b3]))) + turns (wordOf (lasts z2 4 (firsts z1 4 [b0, b1, b2, b3]))) ≤ turns (wordOf (firsts z1 4 [b0, b1, b2, b3]))
  t2 : turns (wordOf (firsts z3 4 [b0, b1, b2, b3])) + turns (wordOf (lasts z3 4 [b0, b1, b2, b3])) ≤ turns (wordOf [b0, b1, b2, b3])
  t3 : turns (wordOf (firsts z1 4 [b0, b1, b2, b3])) + turns (wordOf (lasts z1 4 [b0, b1, b2, b3])) ≤ turns (wordOf [b0, b1, b2, b3])
theorem plain {p0 p1 p2 p3 : Int} {o1 o2 : Nat} {z1 z2 z3 b0 b1 b2 b3 : UInt64} (g0 : -64 ≤ p0 ∧ p0 ≤ 64) (g1 : -64 ≤ p1 ∧ p1 ≤ 64) (g2 : -64 ≤ p2 ∧ p2 ≤ 64) (g3 : -64 ≤ p3 ∧ p3 ≤ 64) (l1 : 1 ≤ o1) (m1 : o1 ≤ 10) (l2 : 1 ≤ o2) (m2 : o2 ≤ 10)
    (hz1 : Dy 6 o1 z1) (hz2 : Dy 6 o2 z2) (hz3 : Dy 12 (6 * (o1 : Int) * o2) z3) (h0 : Dy 0 p0 b0) (h1 : Dy 0 p1 b1) (h2 : Dy 0 p2 b2) (h3 : Dy 0 p3 b3) : Plain p0 p1 p2 p3 o1 o2 z1 z2 z3 b0 b1 b2 b3 := by
  have hpr1 : (1 : Int) ≤ (o1 : Int) * o2 := by
    have : (1 : Int) * 1 ≤ (o1 : Int) * o2 := Int.mul_le_mul (by omega) (by omega) (by decide) (by omega)
    omega
  have hpr2 : (o1 : Int) * o2 ≤ 100 := by
    have : (o1 : Int) * o2 ≤ 10 * 10 := Int.mul_le_mul (by omega) (by omega) (by omega) (by decide)
    omega
  have hu3 : (6 : Int) * (o1 : Int) * o2 = 6 * ((o1 : Int) * o2) := Int.mul_assoc ..
  obtain ⟨c0, c1, c2, d0, d1, f, K⟩ := cut_dy (M := 64) hz1 (by omega) (by omega) (by decide) h0 h1 h2 h3 g0 g1 g2 g3 (by decide)
  obtain ⟨c0', c1', c2', d0', d1', f', K'⟩ := cut_dy (M := 64) hz3 (by omega) (by omega) (by decide) h0 h1 h2 h3 g0 g1 g2 g3 (by decide)
  have y0 := bl_le (A := 2 ^ 6) (a := 6 * (o1 : Int)) (by omega) (by omega) g0 g1
  have y1 := bl_le (A := 2 ^ 6) (a := 6 * (o1 : Int)) (by omega) (by omega) g1 g2
  have y2 := bl_le (A := 2 ^ 6) (a := 6 * (o1 : Int)) (by omega) (by omega) g2 g3
  have w0 := bl_le (A := 2 ^ 6) (a := 6 * (o1 : Int)) (by omega) (by omega) y0 y1
  have w1 := bl_le (A := 2 ^ 6) (a := 6 * (o1 : Int)) (by omega) (by omega) y1 y2
  have v0 := bl_le (A := 2 ^ 6) (a := 6 * (o1 : Int)) (by omega) (by omega) w0 w1
  have s0 := dy_scale 18 K.h0 (by decide)
  have s1 := dy_scale 12 K.y0 (by decide)
  have s2 := dy_scale 6 K.z0 (by decide)
  have s3 := K.v
  have r0 := scale_le (c := 2 ^ 18) (by decide) g0
  have r1 := scale_le (c := 2 ^ 12) (by decide) y0
  have r2 := scale_le (c := 2 ^ 6) (by decide) w0
  obtain ⟨e0, e1, e2, i0, i1, q, K2⟩ := cut_dy (k := 18) (M := 64 * 2 ^ 18) hz2 (by omega) (by omega) (by decide) s0 s1 s2 s3 r0 r1 r2 v0 (by decide)
  have hp1 : (0 : Int) < o1 := by omega
  have hp2 : (0 : Int) < o2 := by omega
  have q1 : 6 * (o1 : Int) < 2 ^ 6 := by omega
  have q2 : 6 * (o2 : Int) < 2 ^ 6 := by omega
  have q3 : (0 : Int) < 6 * o1 * o2 := by omega
  have q4 : 6 * (6 * (o1 : Int) * o2) < 2 ^ 12 := by omega
  refine ⟨fun j hj => ?_, ?_, K'.turns_le q3 q4, K.turns_le hp1 q1⟩
  · rw [K.fst, K2.fst, K'.fst]
    have hj4 : j = 0 ∨ j = 1 ∨ j = 2 ∨ j = 3 := by omega
    rcases hj4 with rfl | rfl | rfl | rfl
    · exact eq_of_dy K2.h0 K'.h0 (c := 18) (d := 36) rfl rfl (by grind)
    · exact eq_of_dy K2.y0 K'.y0 (c := 12) (d := 24) rfl rfl (idA _ _ _ _)
    · exact eq_of_dy K2.z0 K'.z0 (c := 6) (d := 12) rfl rfl (idB _ _ _ _ _)
    · exact eq_of_dy K2.v K'.v (c := 0) (d := 0) rfl rfl (by rw [Int.pow_zero, Int.mul_one, Int.mul_one]; exact idC _ _ _ _ _ _)
  · rw [K.fst]
    exact K2.turns_le hp2 q2
end Dya
end
end PartPL6
section PartPL7
set_option exponentiation.threshold 2000
section
namespace Dya
open PySem PySem.Float64
theorem asum_bd {B : Int} : ∀ ns : List Int, (∀ n ∈ ns, -B ≤ n ∧ n ≤ B) → asum ns ≤ ns.length * B
  | [], _ => by simp [asum]
  | n :: ns, h => by
    have h1 := h n (.head _)
    have h2 := asum_bd ns fun m hm => h m (.tail _ hm)
    have e : ((n :: ns).length : Int) * B = B + (ns.length : Int) * B := by
      rw [List.length_cons]; push_cast; grind
    rw [e]
    unfold asum
    split <;> omega
theorem dgt_bd (x : Int) (i j : Nat) : 0 ≤ dgt x i j ∧ dgt x i j < 65536 := ⟨Int.emod_nonneg _ (by decide), Int.emod_lt_of_pos _ (by decide)⟩
theorem wp_bd {w p : Int} (hw : 0 ≤ w ∧ w < 65536) (hp : -64 ≤ p ∧ p ≤ 64) : -4194304 ≤ w * p ∧ w * p ≤ 4194304 := by
  have e1 : w * p ≤ w * 64 := Int.mul_le_mul_of_nonneg_left hp.2 hw.1
  have e2 : w * -64 ≤ w * p := Int.mul_le_mul_of_nonneg_left hp.1 hw.1
  omega
theorem wp_dy {w p : Int} {b : UInt64} (hw : 0 ≤ w ∧ w < 65536) (hp : -64 ≤ p ∧ p ≤ 64) (hb : Dy 0 p b) : Dy 0 (w * p) (mul (ofInt w) b) := by
  have := wp_bd hw hp
  exact dy_mul (k := 0) (j := 0) (dy_int (by omega)) hb (by decide) (by omega)
theorem side_eq {k c : Nat} {T P L : Int} {b S : UInt64} (hT : T.natAbs ≤ 32768) (hb : Dy k L b) (hL : -(2 ^ 30) ≤ L ∧ L ≤ 2 ^ 30) (hS : Dy 0 P S) (hk : k + c = 36) (e : T * L * 2 ^ c = P * 2 ^ 36) : (cmp (mul (ofInt T) b) S == some Ordering.eq) = true := by
  have hTb : -32768 ≤ T ∧ T ≤ 32768 := by omega
  have h1 : (T * L).natAbs < 2 ^ 53 := by
    have : (T * L).natAbs ≤ 32768 * 2 ^ 30 := by
      rw [Int.natAbs_mul]
      exact Nat.mul_le_mul hT (by omega)
    omega
  have d := dy_mul (k := 0) (j := k) (dy_int (i := T) (by omega)) hb (by omega) h1
  exact eq_of_dy d hS (c := c) (d := 36) (by omega) rfl e
theorem weigh {p0 p1 p2 p3 s x : Int} {o : Nat} {z b0 b1 b2 b3 : UInt64} (g0 : -64 ≤ p0 ∧ p0 ≤ 64) (g1 : -64 ≤ p1 ∧ p1 ≤ 64) (g2 : -64 ≤ p2 ∧ p2 ≤ 64) (g3 : -64 ≤ p3 ∧ p3 ≤ 64) (l1 : 1 ≤ o) (m1 : o ≤ 10) (hs : s = 3 * (o : Int)) (hx : x = 32 - s + s * 65536)
    (hz : Dy 6 o z) (h0 : Dy 0 p0 b0) (h1 : Dy 0 p1 b1) (h2 : Dy 0 p2 b2) (h3 : Dy 0 p3 b3) : WeighOK x [b0, b1, b2, b3] (firsts z 4 [b0, b1, b2, b3]) (lasts z 4 [b0, b1, b2, b3]) := by
  obtain ⟨c0, c1, c2, d0, d1, f, K⟩ := cut_dy (M := 64) hz (by omega) (by omega) (by decide) h0 h1 h2 h3 g0 g1 g2 g3 (by decide)
  obtain ⟨e00, e10, e11, e20, e21, e22, e30, e31, e32, e33⟩ := dig_ok l1 m1 hs hx (r := 32 - s) rfl
  have y0 := bl_le (A := 2 ^ 6) (a := 6 * (o : Int)) (by omega) (by omega) g0 g1
  have y1 := bl_le (A := 2 ^ 6) (a := 6 * (o : Int)) (by omega) (by omega) g1 g2
  have y2 := bl_le (A := 2 ^ 6) (a := 6 * (o : Int)) (by omega) (by omega) g2 g3
  have w0 := bl_le (A := 2 ^ 6) (a := 6 * (o : Int)) (by omega) (by omega) y0 y1
  have w1 := bl_le (A := 2 ^ 6) (a := 6 * (o : Int)) (by omega) (by omega) y1 y2
  have v0 := bl_le (A := 2 ^ 6) (a := 6 * (o : Int)) (by omega) (by omega) w0 w1
  have bb := dgt_bd x
  have sm : ∀ {ns : List Int} {bs : List UInt64}, DyZ ns bs → bs ≠ [] → (∀ n ∈ ns, -4194304 ≤ n ∧ n ≤ 4194304) → ns.length ≤ 4 → Dy 0 ns.sum (PySem.Flt.sumOf bs) := by
    intro ns bs hd hne hn hl
    have h := asum_bd ns hn
    have h2 := asum_nonneg ns
    refine sumOf_dy hd hne ?_
    have : (ns.length : Int) * 4194304 ≤ 4 * 4194304 := Int.mul_le_mul_of_nonneg_right (by omega) (by decide)
    omega
  rw [K.fst, K.lst]
  intro i hi
  have hi4 : i = 0 ∨ i = 1 ∨ i = 2 ∨ i = 3 := by omega
  rcases hi4 with rfl | rfl | rfl | rfl
  · have et : (32 : Int) ^ (0 + ((0 : Nat) : Int)).toNat = 1 := by decide
    rw [et]
    have q1 : Dy 0 (List.sum [dgt x 0 0 * p0]) (PySem.Flt.sumOf (frontL x [b0, b1, b2, b3] 0)) :=
      sm (bs := frontL x [b0, b1, b2, b3] 0) ⟨wp_dy (bb 0 0) g0 h0, trivial⟩ (by simp [frontL]) (by simp only [List.mem_cons, List.not_mem_nil, or_false]; rintro n rfl; exact wp_bd (bb 0 0) g0) (by simp)
    have q2 : Dy 0 (List.sum [dgt x 0 0 * p3]) (PySem.Flt.sumOf (behindL x [b0, b1, b2, b3] 0)) :=
      sm (bs := behindL x [b0, b1, b2, b3] 0) ⟨wp_dy (bb 0 0) g3 h3, trivial⟩ (by simp [behindL]) (by simp only [List.mem_cons, List.not_mem_nil, or_false]; rintro n rfl; exact wp_bd (bb 0 0) g3) (by simp)
    rw [e00] at q1 q2
    exact ⟨side_eq (c := 36) (by decide) h0 (by omega) q1 rfl (by simp), side_eq (c := 36) (by decide) h3 (by omega) q2 rfl (by simp)⟩
  · have et : (32 : Int) ^ (0 + ((1 : Nat) : Int)).toNat = 32 := by decide
    rw [et]
    have q1 : Dy 0 (List.sum [dgt x 1 0 * p0, dgt x 1 1 * p1]) (PySem.Flt.sumOf (frontL x [b0, b1, b2, b3] 1)) :=
      sm (bs := frontL x [b0, b1, b2, b3] 1) ⟨wp_dy (bb 1 0) g0 h0, wp_dy (bb 1 1) g1 h1, trivial⟩ (by simp [frontL]) (by simp only [List.mem_cons, List.not_mem_nil, or_false]; rintro n (rfl | rfl) <;> exact wp_bd (bb _ _) (by assumption)) (by simp)
    have q2 : Dy 0 (List.sum [dgt x 1 0 * p2, dgt x 1 1 * p3]) (PySem.Flt.sumOf (behindL x [b0, b1, b2, b3] 1)) :=
      sm (bs := behindL x [b0, b1, b2, b3] 1) ⟨wp_dy (bb 1 0) g2 h2, wp_dy (bb 1 1) g3 h3, trivial⟩ (by simp [behindL]) (by simp only [List.mem_cons, List.not_mem_nil, or_false]; rintro n (rfl | rfl) <;> exact wp_bd (bb _ _) (by assumption)) (by simp)
    rw [e10, e11] at q1 q2
    refine ⟨side_eq (c := 30) (by decide) K.y0 (by omega) q1 rfl ?_, side_eq (c := 30) (by decide) K.y2 (by omega) q2 rfl ?_⟩
    · simp only [List.sum_cons, List.sum_nil]; unfold bl; subst hs; grind
    · simp only [List.sum_cons, List.sum_nil]; unfold bl; subst hs; grind
  · have et : (32 : Int) ^ (0 + ((2 : Nat) : Int)).toNat = 1024 := by decide
    rw [et]
    have q1 : Dy 0 (List.sum [dgt x 2 0 * p0, dgt x 2 1 * p1, dgt x 2 2 * p2]) (PySem.Flt.sumOf (frontL x [b0, b1, b2, b3] 2)) :=
      sm (bs := frontL x [b0, b1, b2, b3] 2) ⟨wp_dy (bb 2 0) g0 h0, wp_dy (bb 2 1) g1 h1, wp_dy (bb 2 2) g2 h2, trivial⟩ (by simp [frontL]) (by simp only [List.mem_cons, List.not_mem_nil, or_false]; rintro n (rfl | rfl | rfl) <;> exact wp_bd (bb _ _) (by assumption)) (by simp)
    have q2 : Dy 0 (List.sum [dgt x 2 0 * p1, dgt x 2 1 * p2, dgt x 2 2 * p3]) (PySem.Flt.sumOf (behindL x [b0, b1, b2, b3] 2)) :=
      sm (bs := behindL x [b0, b1, b2, b3] 2) ⟨wp_dy (bb 2 0) g1 h1, wp_dy (bb 2 1) g2 h2, wp_dy (bb 2 2) g3 h3, trivial⟩ (by simp [behindL]) (by simp only [List.mem_cons, List.not_mem_nil, or_false]; rintro n (rfl | rfl | rfl) <;> exact wp_bd (bb _ _) (by assumption)) (by simp)
    rw [e20, e21, e22] at q1 q2
    refine ⟨side_eq (c := 24) (by decide) K.z0 (by omega) q1 rfl ?_, side_eq (c := 24) (by decide) K.z1 (by omega) q2 rfl ?_⟩
    · simp only [List.sum_cons, List.sum_nil]; unfold bl; subst hs; grind
    · simp only [List.sum_cons, List.sum_nil]; unfold bl; subst hs; grind
  · have et : (32 : Int) ^ (0 + ((3 : Nat) : Int)).toNat = 32768 := by decide
    rw [et]
    have q1 : Dy 0 (List.sum [dgt x 3 0 * p0, dgt x 3 1 * p1, dgt x 3 2 * p2, dgt x 3 3 * p3]) (PySem.Flt.sumOf (frontL x [b0, b1, b2, b3] 3)) :=
      sm (bs := frontL x [b0, b1, b2, b3] 3) ⟨wp_dy (bb 3 0) g0 h0, wp_dy (bb 3 1) g1 h1, wp_dy (bb 3 2) g2 h2, wp_dy (bb 3 3) g3 h3, trivial⟩ (by simp [frontL]) (by simp only [List.mem_cons, List.not_mem_nil, or_false]; rintro n (rfl | rfl | rfl | rfl) <;> exact wp_bd (bb _ _) (by assumption)) (by simp)
    have q2 : Dy 0 (List.sum [dgt x 3 0 * p0, dgt x 3 1 * p1, dgt x 3 2 * p2, dgt x 3 3 * p3]) (PySem.Flt.sumOf (behindL x [b0, b1, b2, b3] 3)) :=
      sm (bs := behindL x [b0, b1, b2, b3] 3) ⟨wp_dy (bb 3 0) g0 h0, wp_dy (bb 3 1) g1 h1, wp_dy (bb 3 2) g2 h2, wp_dy (bb 3 3) g3 h3, trivial⟩ (by simp [behindL]) (by simp only [List.mem_cons, List.not_mem_nil, or_false]; rintro n (rfl | rfl | rfl | rfl) <;> exact wp_bd (bb _ _) (by assumption)) (by simp)
    rw [e30, e31, e32, e33] at q1 q2
    refine ⟨side_eq (c := 18) (by decide) K.v (by omega) q1 rfl ?_, side_eq (c := 18) (by decide) K.v (by omega) q2 rfl ?_⟩
    · simp only [List.sum_cons, List.sum_nil]; unfold bl; subst hs; grind
    · simp only [List.sum_cons, List.sum_nil]; unfold bl; subst hs; grind
end Dya
end
end PartPL7
section PartLX5
open PySem PySem.W PySem.Spec PySem.Calls PyProof.Rows
section
noncomputable abbrev cellO (v : Option Value) : Obj := { cls := .type "cell", data := .cell v }
section
variable {prog : Program} {w : World} {A : Around} {E : Value → Shared → Prop} {s : Shared} {h₀ : Heap} {L : Addr} {m : Str → Option Value} {env : Env}
noncomputable def SrcC (prog : Program) (w : World) (A : Around) (h₀ : Heap) (L : Addr) (m : Str → Option Value) (env : Env) (elt : Expr) (x y : Str) (scope : Scope) (cl : List (Str × Addr)) (Q : Flow → Shared → Prop) (xv : Value) (s₁ : Shared) : Prop :=
  ∃ (r : Addr) (a b : Int) (t u v : Tok) (n : Nat) (news : List (Addr × Obj)) (R : Nat → Value → Prop), xv = .ref r ∧ A.handled = none ∧ Fr h₀ L s₁.heap m ∧ News h₀ L s₁.heap news ∧ IsRange s₁.heap r a b 1 t u v ∧ Builtin.Range.small a b 1 = true ∧ Builtin.Range.rangeSize a b 1 = ((n : Nat) : Int) ∧ n ≤ 1000 ∧
    (∀ i t' I oI K oK C oC D h tk ys (E' : Value → Shared → Prop), i < n → Fr h₀ L h m → News h₀ L h ((I, oI) :: (K, oK) :: (C, oC) :: (D, LCg.lst ys) :: news) → oK.data = .cell (some (.int (a + (i : Int)) t')) → (∀ p ∈ news, @LT.lt Nat _ p.1 I) → (@LT.lt Nat _ I D) → (@LT.lt Nat _ D C) → (@LT.lt Nat _ C K) →
      wpAny (model prog w) A (eval elt (compEnvC scope ((x, K) :: cl) C env)) (fun z s' => Stop (∃ h' tk', s' = { s₁ with heap := h', toks := tk' } ∧ Fr h₀ L h' m ∧ News h₀ L h' ((I, oI) :: (K, oK) :: (C, oC) :: (D, LCg.lst ys) :: news) ∧ R i z)) E' { s₁ with heap := h, toks := tk }) ∧
    (∀ ys D h tk, ys.length = n → (∀ j, j < n → ∃ z, ys[j]? = some z ∧ R j z) → Fr h₀ L h (fun z => if z = y then some (.ref D) else m z) → News h₀ L h ((D, LCg.lst ys) :: news) → (∀ p ∈ news, @LT.lt Nat _ p.1 D) → Q .next { s₁ with heap := h, toks := tk })
theorem Assign_ListComp_cell {elt iter : Expr} {x y : Str} {px py : Pos} {scope : Scope} {cl : List (Str × Addr)} {pos spos : Pos} {Q : Flow → Shared → Prop} (_F₀ : Fr h₀ L s.heap m) (hLe : env.locals = L)
    (hsw : swapsWith (.ListComp elt [⟨.Name x px, iter, [], 0⟩] scope pos) (some (.Name y py)) spos.line env = pure true)
    (hclos : closureFor scope env = pure cl) (hkind : scope.kind = .function)
    (hc1 : ∀ n, cellsFrom n scope.names cl = (x, n) :: cl) (hc2 : ∀ h : Heap, pushCells h scope.names = h.push (cellO none))
    (hnames : ∀ z ∈ scope.names, z.2 = .local → scope.names.lookup z.1 = some .local) (hx : ∀ K C, (compEnvC scope ((x, K) :: cl) C env).kindOf x = some .cell)
    (hy : env.kindOf y = some .local) (hp : (env.scope.kind == .class || (env.scope.kind == .module && env.locals != env.globals)) = false)
    (h : wpAny (model prog w) A (eval iter env) (fun xv s₁ => SrcC prog w A h₀ L m env elt x y scope cl Q xv s₁) E s)
    (hs : ∀ x, foldedSetIterable iter env x = pure x := by intro _; rfl) :
    wpAny (model prog w) A (exec (.Assign [.Name y py] (.ListComp elt [⟨.Name x px, iter, [], 0⟩] scope pos) spos) env) Q E s := by
  subst hLe
  rw [exec_Assign_Name_used _ _ _ _ hsw]
  refine wpAny_bind (wpAny_standAt (wpAny_bind ?_))
  show wpAny _ A (do let _ ← comprehension (.ListComp elt [⟨.Name x px, iter, [], 0⟩] scope pos) scope env _ (newList []) false (eval iter env) (some (assign (.Name y py) env))) _ _ s
  refine wpAny_bind (wpAny_mono (wpAny_comprehension_free (use := some (assign (.Name y py) env)) (Q := fun _ s' => Q .next s') rfl hs hclos hkind hnames
    (wpAny_mono h (fun xv s₁ h₁ => ?_) fun _ _ e => e)) (fun _ s' hq => wpAny_pure (wpAny_pure hq)) fun _ _ e => e)
  obtain ⟨r, a, b, t, u, v, n, news, R, rfl, hh, F, N, hr, hsm, hn, hsz, step, fin⟩ := h₁
  refine wpAny_pyIter_range hr hsm ?_
  rw [hn]
  generalize hI : s₁.heap.objs.size = I
  have hIn : h₀.get? I = none := by rw [← hI]; exact next_is_new F
  have hLI : env.locals ≠ I := by rw [← hI]; exact fun e => absurd F.ns.lt (e ▸ Nat.lt_irrefl _)
  have hltI : ∀ p ∈ news, @LT.lt Nat _ p.1 I := fun p hp => by rw [← hI]; exact Heap.lt_size (N p hp).1
  generalize hH1 : s₁.heap.push _ = H1
  have hst1 : IsRangeIter H1 I (a + ((0 : Nat) : Int) * 1) ((n : Int) - ((0 : Nat) : Int)) 1 := by
    rw [← hH1, ← hI]
    simpa using Heap.get?_push_size _ rfl
  have F1 : Fr h₀ env.locals H1 m := by rw [← hH1]; exact F.push _
  have N1 : News h₀ env.locals H1 news := by rw [← hH1]; exact fun p hp => ⟨Heap.get?_push_of_some _ (N p hp).1, (N p hp).2⟩
  have hsz1 : H1.objs.size = I + 1 := by rw [← hH1, Heap.size_push, hI]
  refine wpAny_newObj_type ?_
  show wpAny _ A (newFunctionEnv scope env.globals cl [] env.qual none .none (some env)) _ _ _
  dsimp only
  generalize hD : H1.objs.size = D
  have hDI : D = I + 1 := hD.symm.trans hsz1
  generalize hH2 : H1.push _ = H2
  have hsz2 : H2.objs.size = D + 1 := by rw [← hH2, Heap.size_push, hD]
  simp only [newFunctionEnv, Option.isSome_some, if_true]
  refine wpAny_bind (wpAny_alloc ?_)
  refine wpAny_bind (wpAny_layCells _ (fun name kind cells => by cases hkc : kind == NameKind.cell <;> simp [hkc]) _ _ _ _ ?_)
  rw [hc1, hc2]
  dsimp only
  generalize hC : H2.objs.size = C
  have hCD : C = D + 1 := hC.symm.trans hsz2
  generalize hH3 : H2.push _ = H3
  have hsz3 : H3.objs.size = C + 1 := by rw [← hH3, Heap.size_push, hC]
  generalize hK : H3.objs.size = K
  have hKC : K = C + 1 := hK.symm.trans hsz3
  simp only [List.forIn_nil]
  refine wpAny_bind (wpAny_pure (wpAny_pure ?_))
  have up12 : ∀ b o, H1.get? b = some o → H2.get? b = some o := fun b o e => by rw [← hH2]; exact Heap.get?_push_of_some _ e
  have up23 : ∀ b o, H2.get? b = some o → H3.get? b = some o := fun b o e => by rw [← hH3]; exact Heap.get?_push_of_some _ e
  have up34 : ∀ b o, H3.get? b = some o → (H3.push (cellO none)).get? b = some o := fun b o e => Heap.get?_push_of_some _ e
  have up : ∀ b o, H1.get? b = some o → (H3.push (cellO none)).get? b = some o := fun b o e => up34 _ _ (up23 _ _ (up12 _ _ e))
  have eD : (H3.push (cellO none)).get? D = some (LCg.lst []) := up34 _ _ (up23 _ _ (by rw [← hH2, ← hD]; exact Heap.get?_push_size _ rfl))
  have eC : (H3.push (cellO none)).get? C = some { cls := .type "dict", data := .dict #[] } := up34 _ _ (by rw [← hH3, ← hC]; exact Heap.get?_push_size _ rfl)
  have eK : (H3.push (cellO none)).get? K = some (cellO none) := by rw [← hK]; exact Heap.get?_push_size _ rfl
  have fresh₀ : ∀ q, @LE.le Nat _ I q → h₀.get? q = none := fun q hq => by
    cases e : h₀.get? q with
    | none => rfl
    | some o' =>
      have := Heap.lt_size (F.keep q o' e)
      rw [hI] at this
      exact absurd this (Nat.not_lt.mpr hq)
  have hLlt : @LT.lt Nat _ env.locals I := by rw [← hI]; exact F.ns.lt
  have F4 : Fr h₀ env.locals (H3.push (cellO none)) m := F1.keeps up
  have N4 : News h₀ env.locals (H3.push (cellO none)) ((K, cellO none) :: (C, { cls := .type "dict", data := .dict #[] }) :: (D, LCg.lst []) :: news) := fun p hp => by
    simp only [List.mem_cons] at hp
    rcases hp with rfl | rfl | rfl | hp
    · exact ⟨eK, by dsimp only; exact Nat.ne_of_gt (by omega), fresh₀ _ (by dsimp only; omega)⟩
    · exact ⟨eC, by dsimp only; exact Nat.ne_of_gt (by omega), fresh₀ _ (by dsimp only; omega)⟩
    · exact ⟨eD, by dsimp only; exact Nat.ne_of_gt (by omega), fresh₀ _ (by dsimp only; omega)⟩
    · exact ⟨up _ _ (N1 p hp).1, (N1 p hp).2⟩
  have hst4 : IsRangeIter (H3.push (cellO none)) I (a + ((0 : Nat) : Int) * 1) ((n : Int) - ((0 : Nat) : Int)) 1 := up _ _ hst1
  have hW := LCg.range_walks (prog := prog) (w := w) (A := A) (I := I) hh a n
  have loop : ∀ s₃ : Shared, s₃ = { s₁ with heap := H3.push (cellO none) } →
      codeAny (model prog w) A (.compLoop (.ListComp elt [⟨.Name x px, iter, [], 0⟩] scope pos) 0 (.ref I) (.ref D) (compEnvC scope ((x, K) :: cl) C env)) (compPost (model prog w) A E (some (assign (.Name y py) env)) (fun _ s' => Q .next s') (.ref D) C) s₃ := by
    rintro s₃ rfl
    refine codeAny_compLoop_tests
      (fun k s' => ∃ h' tk i ys oK v₀, s' = { s₁ with heap := h', toks := tk } ∧ i ≤ n ∧ k = n + 1 - i ∧ ys.length = i ∧ IsRangeIter h' I (a + (i : Nat) * 1) ((n : Int) - (i : Nat)) 1 ∧ Fr h₀ env.locals h' m ∧
        News h₀ env.locals h' ((K, oK) :: (C, { cls := .type "dict", data := .dict #[] }) :: (D, LCg.lst ys) :: news) ∧ oK.data = .cell v₀ ∧ ∀ j, j < i → ∃ z, ys[j]? = some z ∧ R j z) ?_ (n + 1)
      ⟨_, _, 0, [], _, _, rfl, Nat.zero_le _, rfl, rfl, hst4, F4, N4, rfl, fun j hj => absurd hj (Nat.not_lt_zero _)⟩
    rintro k s' ⟨h', tk, i, ys, oK, v₀, rfl, hi, rfl, hyl, hst', F', N', hoK, hys⟩
    have neI : ∀ p ∈ (K, oK) :: (C, ({ cls := .type "dict", data := .dict #[] } : Obj)) :: (D, LCg.lst ys) :: news, @Ne Nat p.1 I := fun p hp => by
      simp only [List.mem_cons] at hp
      rcases hp with rfl | rfl | rfl | hp
      · exact Nat.ne_of_gt (by dsimp only; omega)
      · exact Nat.ne_of_gt (by dsimp only; omega)
      · exact Nat.ne_of_gt (by dsimp only; omega)
      · exact Nat.ne_of_lt (hltI p hp)
    have neD : ∀ p ∈ news, @Ne Nat p.1 D := fun p hp => Nat.ne_of_lt (by have := hltI p hp; omega)
    have neK : ∀ p ∈ news, @Ne Nat p.1 K := fun p hp => Nat.ne_of_lt (by have := hltI p hp; omega)
    by_cases hlt : i < n
    · refine hW.item i _ _ _ hlt hst' fun v h₂ tk₂ hPv hst₂ hk₂ => ?_
      obtain ⟨t', rfl⟩ := hPv
      have F₂ := LCg.fr_but F' hk₂ hLI hIn
      have N₂ := LCg.news_but N' hk₂ neI
      have zK := N₂ _ (.head _)
      refine wpAny_assign_Name (wpAny_storeName_cell (c := K) hkind (hx K C) (by simp [compEnvC, List.lookup]) ⟨oK, zK.1, hoK⟩ fun h₃ hv₃ hs₃ => ?_)
      obtain ⟨oK', heK, hoK'⟩ := hv₃
      refine wpAny_tests_nil ?_
      simp only [if_true]
      have F₃ : Fr h₀ env.locals h₃ m := F₂.change hs₃ zK.2.1 zK.2.2
      have hst₃ : IsRangeIter h₃ I (a + ((i + 1 : Nat) : Int) * 1) ((n : Int) - ((i + 1 : Nat) : Int)) 1 := hW.frame _ _ _ hst₂ fun b hb o e => hs₃.extBut b o (fun q => by
        rw [List.mem_singleton.mp hb] at q
        exact absurd q (Nat.ne_of_lt (by omega))) e
      have keep : ∀ p : Addr × Obj, @Ne Nat p.1 K → h₂.get? p.1 = some p.2 → h₃.get? p.1 = some p.2 := fun p ne e => hs₃.extBut _ _ ne e
      have N₃ : News h₀ env.locals h₃ ((I, _) :: (K, oK') :: (C, { cls := .type "dict", data := .dict #[] }) :: (D, LCg.lst ys) :: news) := fun p hp => by
        simp only [List.mem_cons] at hp
        rcases hp with rfl | rfl | rfl | rfl | hp
        · exact ⟨hst₃, Ne.symm hLI, hIn⟩
        · exact ⟨heK, zK.2⟩
        · exact ⟨keep (C, _) (Nat.ne_of_lt (by dsimp only; omega)) (N₂ _ (.tail _ (.head _))).1, (N₂ _ (.tail _ (.head _))).2⟩
        · exact ⟨keep (D, _) (Nat.ne_of_lt (by dsimp only; omega)) (N₂ _ (.tail _ (.tail _ (.head _)))).1, (N₂ _ (.tail _ (.tail _ (.head _)))).2⟩
        · exact ⟨keep p (neK p hp) (N₂ _ (.tail _ (.tail _ (.tail _ hp)))).1, (N₂ _ (.tail _ (.tail _ (.tail _ hp)))).2⟩
      refine wpAny_mono (step i t' I _ K oK' C _ D h₃ _ ys _ hlt F₃ N₃ hoK' hltI (by omega) (by omega) (by omega)) (fun z s₄ h₄ => ?_) fun _ _ e => e
      obtain ⟨h₄, tk₄, rfl, F₄, N₄, hz⟩ := h₄
      have zD := N₄ _ (.tail _ (.tail _ (.tail _ (.head _))))
      refine append_at (hsz := by show ys.toArray.size ≤ sizeLine; rw [List.size_toArray, hyl, sizeLine_eq]; omega) zD.1 fun h₅ hs₅ hD₅ => ?_
      have keep5 : ∀ p : Addr × Obj, @Ne Nat p.1 D → h₄.get? p.1 = some p.2 → h₅.get? p.1 = some p.2 := fun p ne e => hs₅.extBut _ _ ne e
      refine ⟨n + 1 - (i + 1), by omega, h₅, tk₄, i + 1, ys ++ [z], oK', _, rfl, hlt, rfl, by rw [List.length_append, List.length_singleton, hyl], ?_, F₄.change hs₅ zD.2.1 zD.2.2, fun p hp => ?_, hoK', fun j hj => ?_⟩
      · exact keep5 (I, _) (Nat.ne_of_lt (by dsimp only; omega)) (N₄ _ (.head _)).1
      · simp only [List.mem_cons] at hp
        rcases hp with rfl | rfl | rfl | hp
        · exact ⟨keep5 (K, _) (Nat.ne_of_gt (by dsimp only; omega)) (N₄ _ (.tail _ (.head _))).1, (N₄ _ (.tail _ (.head _))).2⟩
        · exact ⟨keep5 (C, _) (Nat.ne_of_gt (by dsimp only; omega)) (N₄ _ (.tail _ (.tail _ (.head _)))).1, (N₄ _ (.tail _ (.tail _ (.head _)))).2⟩
        · exact ⟨hD₅.trans (congrArg some (LCg.lst_snoc ys z)), zD.2⟩
        · exact ⟨keep5 p (neD p hp) (N₄ _ (.tail _ (.tail _ (.tail _ (.tail _ hp))))).1, (N₄ _ (.tail _ (.tail _ (.tail _ (.tail _ hp))))).2⟩
      · by_cases hji : j < i
        · obtain ⟨z', e', r'⟩ := hys j hji
          exact ⟨z', by rw [List.getElem?_append_left (by omega)]; exact e', r'⟩
        · have : j = i := by omega
          subst this
          exact ⟨z, by rw [List.getElem?_append_right (by omega), hyl, Nat.sub_self]; rfl, hz⟩
    · obtain rfl : i = n := Nat.le_antisymm hi (Nat.not_lt.mp hlt)
      refine hW.done _ _ _ hst' fun h₂ tk₂ hk₂ => ?_
      have F₂ := LCg.fr_but F' hk₂ hLI hIn
      have N₂ := LCg.news_but N' hk₂ neI
      show wpAny _ A (assign (.Name y py) env (.ref D)) _ _ _
      refine wpAny_assign_Name (wpAny_storeName_local hy F₂.ns (fun h₃ hn₃ hs₃ => ?_) hp)
      have F₃ := F₂.set hn₃ hs₃
      have N₃ := N₂.set hs₃
      have zC := N₃ _ (.tail _ (.head _))
      refine ⟨fun _ => none, ⟨_, _, _, zC.1, rfl, fun e he => by simp at he, fun name => rfl⟩, fun h₄ hs₄ => ?_⟩
      refine fin ys D h₄ _ hyl hys (F₃.change hs₄ zC.2.1 zC.2.2) (fun p hp => ?_) fun p hp => by have := hltI p hp; omega
      have neC : @Ne Nat p.1 C := by
        rcases List.mem_cons.mp hp with rfl | hp
        · exact Nat.ne_of_lt (by dsimp only; omega)
        · exact Nat.ne_of_lt (by have := hltI p hp; omega)
      have z := N₃ p (.tail _ (.tail _ (by
        rcases List.mem_cons.mp hp with rfl | hp
        · exact .head _
        · exact .tail _ hp)))
      exact ⟨hs₄.extBut _ _ neC z.1, z.2⟩
  exact codeAny_compStart_list (loop _ rfl) (hW.self 0 _ _ _ hst4 (loop _ rfl))
end
end
end PartLX5
section PartLX2
open PySem PySem.W PySem.Spec PySem.Calls PyProof.Rows
section
noncomputable abbrev lead3 (r0 r1 r2 : Int) : List Nat := sp r0 ++ [9] ++ sp r1 ++ [9] ++ sp r2
noncomputable def wsB (a b c : Nat) : Bool :=
  let l := lead3 a b c
  let s := wsF l
  decide (max ((s.1.length : Int) - 1) s.2.1 = max (max (a : Int) b) c) && (List.range 7).all fun k => decide (indF (k + 1) s = colF (k + 1) l ∧ 0 ≤ colF (k + 1) l ∧ colF (k + 1) l ≤ 40)
theorem ws_all : ((List.range 7).all fun a => (List.range 7).all fun b => (List.range 3).all fun c => wsB a b c) = true := by decide +kernel
theorem ws_ok {r0 r1 r2 : Int} (h0 : 0 ≤ r0) (h0' : r0 ≤ 6) (h1 : 0 ≤ r1) (h1' : r1 ≤ 6) (h2 : 0 ≤ r2) (h2' : r2 ≤ 2) :
    max (((wsF (lead3 r0 r1 r2)).1.length : Int) - 1) (wsF (lead3 r0 r1 r2)).2.1 = max (max r0 r1) r2 ∧ ∀ k : Int, 1 ≤ k → k ≤ 7 → indF k (wsF (lead3 r0 r1 r2)) = colF k (lead3 r0 r1 r2) ∧ 0 ≤ colF k (lead3 r0 r1 r2) ∧ colF k (lead3 r0 r1 r2) ≤ 40 := by
  obtain ⟨a, rfl⟩ := Int.eq_ofNat_of_zero_le h0
  obtain ⟨b, rfl⟩ := Int.eq_ofNat_of_zero_le h1
  obtain ⟨c, rfl⟩ := Int.eq_ofNat_of_zero_le h2
  have h := List.all_eq_true.mp (List.all_eq_true.mp (List.all_eq_true.mp ws_all a (List.mem_range.mpr (by omega))) b (List.mem_range.mpr (by omega))) c (List.mem_range.mpr (by omega))
  unfold wsB at h
  simp only [Bool.and_eq_true] at h
  refine ⟨of_decide_eq_true h.1, fun k hk hk' => ?_⟩
  obtain ⟨n, rfl⟩ : ∃ n : Nat, k = (n : Int) + 1 := ⟨(k - 1).toNat, by omega⟩
  exact of_decide_eq_true (List.all_eq_true.mp h.2 n (List.mem_range.mpr (by omega)))
theorem lead3_len {r0 r1 r2 : Int} (h0' : r0 ≤ 6) (h1' : r1 ≤ 6) (h2' : r2 ≤ 2) : (lead3 r0 r1 r2).length ≤ 20 := by
  simp only [lead3, List.length_append, sp_len, List.length_cons, List.length_nil]
  omega
theorem WitIn.filter {led : List (Addr × Obj)} {us rs} (P : Addr × Obj → Bool) (hP : ∀ T vs, (T, ({ cls := .type "tuple", data := .seq vs } : Obj)) ∈ led → P (T, ({ cls := .type "tuple", data := .seq vs } : Obj)) = true) (h : WitIn led us rs) : WitIn (led.filter P) us rs := by
  induction h with
  | nil => exact .nil
  | snoc T a b c t1 t2 t3 _ hm ih => exact .snoc T a b c t1 t2 t3 ih (List.mem_filter.mpr ⟨hm, hP _ _ hm⟩)
theorem told_led {g h : Heap} {S Dt cT : Addr} {ot : Obj} {us : List Value} {rs : List (Int × Int × Int)} {led news : List (Addr × Obj)} {ps : Array Value} {od : Obj} {v : Option Value} (N : News g S h ((Dt, od) :: led)) (hw : WitIn led us rs) (hsub : ∀ p ∈ news, p ∈ led) (mT : (cT, ot) ∈ news) (m38 : (38, tabObj ps) ∈ news) (hT : ot.data = .cell v) :
    ∃ rest, News g S h ((Dt, od) :: (cT, ot) :: (38, tabObj ps) :: rest) ∧ WitIn rest us rs ∧ (∀ p ∈ rest, @Ne Nat p.1 cT) ∧ (∀ p ∈ rest, @Ne Nat p.1 38) ∧ (∀ p ∈ news, @Ne Nat p.1 cT → @Ne Nat p.1 38 → p ∈ rest) := by
  have gT := (N _ (.tail _ (hsub _ mT))).1
  have g38 := (N _ (.tail _ (hsub _ m38))).1
  refine ⟨led.filter fun p => decide (@Ne Nat p.1 cT) && decide (@Ne Nat p.1 38), fun p hp => ?_, hw.filter _ (fun T vs hm => ?_), fun p hp => ?_, fun p hp => ?_, fun p hp n1 n2 => List.mem_filter.mpr ⟨hsub p hp, by simp only [Bool.and_eq_true, decide_eq_true_eq]; exact ⟨n1, n2⟩⟩⟩
  · rcases List.mem_cons.mp hp with e | hp
    · exact e ▸ N _ (.head _)
    · rcases List.mem_cons.mp hp with e | hp
      · exact e ▸ N _ (.tail _ (hsub _ mT))
      · rcases List.mem_cons.mp hp with e | hp
        · exact e ▸ N _ (.tail _ (hsub _ m38))
        · exact N _ (.tail _ (List.mem_filter.mp hp).1)
  · have gt := (N _ (.tail _ hm)).1
    simp only [Bool.and_eq_true, decide_eq_true_eq]
    refine ⟨fun e => ?_, fun e => ?_⟩
    · dsimp only at e gt gT
      rw [e, gT] at gt
      have e2 := Option.some.inj gt
      rw [e2] at hT
      cases hT
    · dsimp only at e gt g38
      rw [e, g38] at gt
      have e2 := Option.some.inj gt
      have e3 : Value.none = Value.type "tuple" := congrArg Obj.cls e2
      cases e3
  · have := (List.mem_filter.mp hp).2
    simp only [Bool.and_eq_true, decide_eq_true_eq] at this
    exact this.1
  · have := (List.mem_filter.mp hp).2
    simp only [Bool.and_eq_true, decide_eq_true_eq] at this
    exact this.2
end
end PartLX2
section PartLX3
open PySem PySem.W PySem.Spec PySem.Calls PyProof.Rows PySem.SeqAt
section
section
variable {A : Around} {s : Shared}
theorem WitIn.get {led : List (Addr × Obj)} {us : List Value} {rs : List (Int × Int × Int)} (h : WitIn led us rs) : ∀ j, j < rs.length → ∃ T a b c t1 t2 t3, us[j]? = some (.ref T) ∧ rs[j]? = some (a, b, c) ∧ (T, ({ cls := .type "tuple", data := .seq [.int a t1, .int b t2, .int c t3].toArray } : Obj)) ∈ led := by
  induction h with
  | nil => intro j hj; simp at hj
  | @snoc vs rs T a b c t1 t2 t3 hw hm ih =>
    intro j hj
    have hl := hw.length
    rcases Nat.lt_or_ge j rs.length with h | h
    · obtain ⟨T', a', b', c', u1, u2, u3, e1, e2, e3⟩ := ih j h
      exact ⟨T', a', b', c', u1, u2, u3, by rw [List.getElem?_append_left (by omega)]; exact e1, by rw [List.getElem?_append_left h]; exact e2, e3⟩
    · have : j = rs.length := by simp at hj; omega
      subst this
      exact ⟨T, a, b, c, t1, t2, t3, by rw [List.getElem?_append_right (by omega), hl, Nat.sub_self]; rfl, by rw [List.getElem?_append_right (Nat.le_refl _), Nat.sub_self]; rfl, hm⟩
theorem tup3_eq {T T' : Addr} {a b c : Int} {t1 t2 t3 u1 u2 u3 : Tok} (h1 : s.heap.get? T = some { cls := .type "tuple", data := .seq [.int a t1, .int b t2, .int c t3].toArray }) (h2 : s.heap.get? T' = some { cls := .type "tuple", data := .seq [.int a u1, .int b u2, .int c u3].toArray }) (hu : A.units < cLine) :
    EqAt A s (.ref T) (.ref T') true := by
  by_cases e : T = T'
  · subst e; exact EqAt.same _
  · have := RcAt.tuples (A := A) (s := s) (l := T) (b := T') (e := fun _ => true) ⟨_, h1, rfl, _, rfl⟩ ⟨_, h2, rfl, _, rfl⟩ hu (fun j q1 q2 => by
      have hj : j = 0 ∨ j = 1 ∨ j = 2 := by simp at q1; omega
      rcases hj with rfl | rfl | rfl
      · have := EqAt.int_int (A := A.in1) (s := s) a t1 a u1; rwa [beq_self_eq_true] at this
      · have := EqAt.int_int (A := A.in1) (s := s) b t2 b u2; rwa [beq_self_eq_true] at this
      · have := EqAt.int_int (A := A.in1) (s := s) c t3 c u3; rwa [beq_self_eq_true] at this)
    exact EqAt.of_refs e this
theorem wit_same {σ1 σ2 : WS} {l1 l2 : List Nat} {mm : Nat} {a b : Int} (e1 : max ((σ1.1.length : Int) - 1) σ1.2.1 = a) (e2 : max ((σ2.1.length : Int) - 1) σ2.2.1 = b) (e : max a b = (mm : Int)) (h : (mm : Int) ≤ 6)
    (f1 : ∀ k : Int, 1 ≤ k → k ≤ 7 → indF k σ1 = colF k l1 ∧ 0 ≤ colF k l1 ∧ colF k l1 ≤ 40) (f2 : ∀ k : Int, 1 ≤ k → k ≤ 7 → indF k σ2 = colF k l2 ∧ 0 ≤ colF k l2 ∧ colF k l2 ≤ 40) :
    witR (fun k => indF k (σ1.1, σ1.2.1, σ1.2.2)) (fun k => indF k (σ2.1, σ2.2.1, σ2.2.2)) (max (max ((σ1.1.length : Int) - 1) σ1.2.1) (max ((σ2.1.length : Int) - 1) σ2.2.1) + 1).toNat = witR (fun k => colF k l1) (fun k => colF k l2) (mm + 1) := by
  rw [e1, e2, e, show ((mm : Int) + 1).toNat = mm + 1 by omega]
  exact witR_congr _ fun k h1 h2 => ⟨(f1 k h1 (by omega)).1, (f2 k h1 (by omega)).1⟩
theorem all_true (n : Nat) : (!(List.range n).all fun _ => true) = false := by simp
end
section
variable {prog : Program} {w : World} {A : Around} {E : Value → Shared → Prop} {s : Shared} {Q : Value → Shared → Prop} {h₀ : Heap} {L a b : Addr} {l1 l2 led : List (Addr × Obj)} {us vs : List Value} {rs : List (Int × Int × Int)}
theorem ne_wits (N : News h₀ L s.heap led) (w1 : WitIn l1 us rs) (w2 : WitIn l2 vs rs) (h1 : ∀ p ∈ l1, p ∈ led) (h2 : ∀ p ∈ l2, p ∈ led) (ha : s.heap.IsList a us.toArray) (hb : s.heap.IsList b vs.toArray) (hu : A.units + 10 < cLine) (h : Q (.bool false) s) :
    wpAny (model prog w) A (compareOp .NotEq (.ref a) (.ref b)) Q E s := by
  have e1 := w1.length
  have e2 := w2.length
  refine SeqAt.RcNeAt.lists (e := fun _ => true) ha hb (by simp; omega) (by omega) (fun j q1 q2 => ?_) prog w E Q (by rw [all_true]; exact h)
  simp only [List.size_toArray] at q1 q2
  obtain ⟨T, x, y, z, t1, t2, t3, g1, g2, g3⟩ := w1.get j (by omega)
  obtain ⟨T', x', y', z', u1, u2, u3, k1, k2, k3⟩ := w2.get j (by omega)
  rw [g2] at k2
  cases k2
  have i1 : us.toArray[j] = .ref T := by
    rw [List.getElem_toArray]
    exact Option.some.inj (by rw [← List.getElem?_eq_getElem]; exact g1)
  have i2 : vs.toArray[j] = .ref T' := by
    rw [List.getElem_toArray]
    exact Option.some.inj (by rw [← List.getElem?_eq_getElem]; exact k1)
  rw [i1, i2]
  exact tup3_eq (N _ (h1 _ g3)).1 (N _ (h2 _ k3)).1 (by show A.units + 1 < cLine; omega)
theorem rc_float (x : UInt64) (t : Tok) (y : UInt64) (u : Tok) : RcAt A s (.float x t) (.float y u) (Float64.cmp x y == some Ordering.eq) := fun prog w E Q h =>
  richCompare_gives (typeIs_float s x t) (typeIs_float s y u) F.slot_float_eq F.entry_float_eq (F.args_float_eq_2 _ _) (AutoFloatG5.float___eq___float_float_0 x t y u) (fun x => nomatch x) h
theorem same_float {x y : UInt64} {t u : Tok} {Q : Bool → Shared → Prop} (ht : t ≠ 0) (hu : u ≠ 0) (hb : NoneBooked s.heap) (hq : ∀ b, Q b s) : wpAny (model prog w) A (isSame (.float x t) (.float y u)) Q E s := by
  show wpAny _ A (isSame.created (x == y && !Float64.isNaN x) t u) Q E s
  have h0 : (t == 0 || u == 0) = false := by simp [ht, hu]
  unfold isSame.created
  refine wpAny_ite ?_
  split
  · rename_i h; rw [h0] at h; exact absurd h Bool.false_ne_true
  refine wpAny_ite ?_
  split
  · exact wpAny_pure (hq _)
  refine wpAny_ite ?_
  split
  · exact wpAny_pure (hq _)
  refine wpAny_bind (wpAny_sharingNotTold_none hb ?_)
  refine wpAny_ite ?_
  rw [if_neg (by decide)]
  refine wpAny_bind (wpAny_sharingNotTold_none hb ?_)
  refine wpAny_ite ?_
  rw [if_neg (by decide)]
  exact wpAny_bind (wpAny_rule (wpAny_bind (wpAny_askSetting (wpAny_pure (hq _)))))
theorem eq_float {x y : UInt64} {t u : Tok} (ht : t ≠ 0) (hu : u ≠ 0) (hb : NoneBooked s.heap) (hx : (Float64.cmp x y == some Ordering.eq) = true) : EqAt A s (.float x t) (.float y u) true := fun prog w E Q h => by
  unfold eqBool
  refine wpAny_holding ?_
  refine wpAny_ite_split (fun _ => wpAny_bind (wpAny_rule (wpAny_pure h))) (fun _ => ?_)
  refine wpAny_bind (same_float ht hu hb fun b => ?_)
  cases b with
  | true => exact wpAny_pure h
  | false =>
    refine wpAny_bind (rc_float x t y u prog w E _ ?_)
    rw [hx]
    exact wpAny_truthy_bool h
theorem ne_fls {xs ys : List UInt64} (f1 : Fls us xs) (f2 : Fls vs ys) (hl : xs.length = ys.length) (he : ∀ j, j < xs.length → (Float64.cmp (xs.getD j 0) (ys.getD j 0) == some Ordering.eq) = true) (ha : s.heap.IsList a us.toArray) (hb : s.heap.IsList b vs.toArray) (hu : A.units + 10 < cLine) (hbk : NoneBooked s.heap) (h : Q (.bool false) s) :
    wpAny (model prog w) A (compareOp .NotEq (.ref a) (.ref b)) Q E s := by
  have e1 := f1.length
  have e2 := f2.length
  refine SeqAt.RcNeAt.lists (e := fun _ => true) ha hb (by simp; omega) (by omega) (fun j q1 q2 => ?_) prog w E Q (by rw [all_true]; exact h)
  simp only [List.size_toArray] at q1 q2
  have j1 : xs[j]? = some (xs.getD j 0) := by rw [List.getD_eq_getElem?_getD, List.getElem?_eq_getElem (by omega)]; rfl
  have j2 : ys[j]? = some (ys.getD j 0) := by rw [List.getD_eq_getElem?_getD, List.getElem?_eq_getElem (by omega)]; rfl
  obtain ⟨t, nt, g1⟩ := f1.get j _ j1
  obtain ⟨u, nu, k1⟩ := f2.get j _ j2
  have i1 : us.toArray[j] = .float (xs.getD j 0) t := by
    rw [List.getElem_toArray]
    exact Option.some.inj (by rw [← List.getElem?_eq_getElem]; exact g1)
  have i2 : vs.toArray[j] = .float (ys.getD j 0) u := by
    rw [List.getElem_toArray]
    exact Option.some.inj (by rw [← List.getElem?_eq_getElem]; exact k1)
  rw [i1, i2]
  exact eq_float nt nu hbk (he j (by omega))
end
end
end PartLX3
section PartLX6
open PySem PySem.W PySem.Spec PySem.Calls PyProof.Rows
section
section
variable {prog : Program} {w : World} {A : Around} {E : Value → Shared → Prop} {s : Shared} {h₀ : Heap} {L : Addr} {m : Str → Option Value} {env : Env}
theorem compLoop_pt {elt target iter : Expr} {ifs : List Expr} {scope : Scope} {pos : Pos} {it acc : Value} {env : Env} {R : Result → Shared → Prop} (I : Nat → Shared → Prop)
    (turn : ∀ n s, I n s → wpAny (model prog w) A (pyNext it) (fun r s₁ => match r with
      | none => R (.ok .next) s₁
      | some v => wpAny (model prog w) A (letOwnedTupleGo target it v) (fun _ s₁' => wpAny (model prog w) A (assign target env v) (fun _ s₂ =>
          wpAny (model prog w) A (forIn ifs true fun c r => if r = true then do let ok ← isTrue c env (eval c env); pure (ForInStep.yield ok) else pure (ForInStep.yield r)) (fun ok s₃ =>
            if ok = true then wpAny (model prog w) A (eval elt env) (fun x s₄ =>
              wpAny (model prog w) A (call (.builtin "list.append") [acc, x]) (fun _ s₅ => ∃ m, m < n ∧ I m s₅) (notedBy (model prog w) A env fun e s' => R (.error e) s') s₄) (notedBy (model prog w) A env fun e s' => R (.error e) s') s₃
            else ∃ m, m < n ∧ I m s₃) (notedBy (model prog w) A env fun e s' => R (.error e) s') s₂) (notedBy (model prog w) A env fun e s' => R (.error e) s') s₁') (notedBy (model prog w) A env fun e s' => R (.error e) s') s₁) (notedBy (model prog w) A env fun e s' => R (.error e) s') s)
    (n : Nat) (h : I n s) :
    codeAny (model prog w) A (.compLoop (.ListComp elt [⟨target, iter, ifs, 0⟩] scope pos) 0 it acc env) R s := by
  refine codeAny_loop rfl I (fun n s hI => ?_) n h
  show wpAny _ A ((compTurn (.ListComp elt [⟨target, iter, ifs, 0⟩] scope pos) 0 it acc env).onRaise (fun x => do noteFrame x env; theTreesLotGoes x)) _ _ s
  refine wpAny_noted ?_
  rw [compTurn_list]
  refine wpAny_bind (wpAny_standAt (wpAny_bind (wpAny_mono (turn n s hI) (fun r s₁ h₁ => ?_) fun _ _ h' => h')))
  cases r with
  | none => exact wpAny_pure h₁
  | some v =>
    refine wpAny_bind (wpAny_mono h₁ (fun _ s₁' h₁' => ?_) fun _ _ h' => h')
    refine wpAny_bind (wpAny_mono h₁' (fun _ s₂ h₂ => wpAny_bind (wpAny_mono h₂ (fun ok s₃ h₃ => ?_) fun _ _ h' => h')) fun _ _ h' => h')
    cases ok with
    | false => exact wpAny_pure ⟨rfl, h₃⟩
    | true =>
      exact wpAny_bind (wpAny_bind (wpAny_mono h₃ (fun x s₄ h₄ => wpAny_bind (wpAny_mono h₄ (fun _ s₅ h₅ => wpAny_pure (wpAny_pure ⟨rfl, h₅⟩)) fun _ _ h' => h')) fun _ _ h' => h'))
noncomputable def WitStep (prog : Program) (w : World) (A : Around) (h₀ : Heap) (L : Addr) (m : Str → Option Value) (elt ct : Expr) (n1 n2 n3 : Str) (env2 : Addr → Env) (news : List (Addr × Obj)) (s₁ : Shared) (rs : List (Int × Int × Int)) (Acc : Nat → List Value → Prop) : Prop :=
  ∀ i a b c t1 t2 t3 I oI C oC D m₂ h tk ys (E' : Value → Shared → Prop), i < rs.length → rs[i]? = some (a, b, c) → LCg.NsObj oC m₂ → m₂ n1 = some (.int a t1) → m₂ n2 = some (.int b t2) → m₂ n3 = some (.int c t3) → Fr h₀ L h m → News h₀ L h ((I, oI) :: (C, oC) :: (D, LCg.lst ys) :: news) → Acc i ys →
      wpAny (model prog w) A (isTrue ct (env2 C) (eval ct (env2 C))) (fun ok s' => if ok = true then
        wpAny (model prog w) A (eval elt (env2 C)) (fun y s'' => Stop (∃ h' tk', s'' = { s₁ with heap := h', toks := tk' } ∧ Fr h₀ L h' m ∧ News h₀ L h' ((I, oI) :: (C, oC) :: (D, LCg.lst ys) :: news) ∧ Acc (i + 1) (ys ++ [y]))) E' s'
        else Stop (∃ h' tk', s' = { s₁ with heap := h', toks := tk' } ∧ Fr h₀ L h' m ∧ News h₀ L h' ((I, oI) :: (C, oC) :: (D, LCg.lst ys) :: news) ∧ Acc (i + 1) ys)) E' { s₁ with heap := h, toks := tk }
noncomputable def WitSrc (prog : Program) (w : World) (A : Around) (h₀ : Heap) (L : Addr) (m : Str → Option Value) (env : Env) (elt ct : Expr) (n1 n2 n3 : Str) (scope : Scope) (cl : List (Str × Addr)) (Q : Value → Shared → Prop) (xv : Value) (s₁ : Shared) : Prop :=
  ∃ l us c news rs Acc, xv = .ref l ∧ A.handled = none ∧ Fr h₀ L s₁.heap m ∧ News h₀ L s₁.heap news ∧ (l, PySem.W.listOf us.toArray c) ∈ news ∧ WitIn news us rs ∧ rs.length ≤ 1000 ∧ Acc 0 [] ∧
      WitStep prog w A h₀ L m elt ct n1 n2 n3 (fun C => compEnvC scope cl C env) news s₁ rs Acc ∧
      (∀ ys D h tk, Acc rs.length ys → Fr h₀ L h m → News h₀ L h ((D, LCg.lst ys) :: news) → (∀ p ∈ news, @LT.lt Nat _ p.1 D) → Q (.ref D) { s₁ with heap := h, toks := tk })
theorem WitSrc.intro {elt ct : Expr} {n1 n2 n3 : Str} {scope : Scope} {cl : List (Str × Addr)} {Q : Value → Shared → Prop} {l : Addr} {us : List Value} {c : Nat} {news : List (Addr × Obj)} {rs : List (Int × Int × Int)} {s₁ : Shared} (Acc : Nat → List Value → Prop) (hh : A.handled = none) (F : Fr h₀ L s₁.heap m) (N : News h₀ L s₁.heap news)
    (hl : (l, PySem.W.listOf us.toArray c) ∈ news) (hw : WitIn news us rs) (hr : rs.length ≤ 1000) (h0 : Acc 0 []) (step : WitStep prog w A h₀ L m elt ct n1 n2 n3 (fun C => compEnvC scope cl C env) news s₁ rs Acc)
    (fin : ∀ ys D h tk, Acc rs.length ys → Fr h₀ L h m → News h₀ L h ((D, LCg.lst ys) :: news) → (∀ p ∈ news, @LT.lt Nat _ p.1 D) → Q (.ref D) { s₁ with heap := h, toks := tk }) :
    WitSrc prog w A h₀ L m env elt ct n1 n2 n3 scope cl Q (.ref l) s₁ := ⟨l, us, c, news, rs, Acc, rfl, hh, F, N, hl, hw, hr, h0, step, fin⟩
theorem ListComp_wit {elt iter ct : Expr} {n1 n2 n3 : Str} {p1 p2 p3 tp : Pos} {k0 : Nat} {scope : Scope} {cl : List (Str × Addr)} {pos : Pos} {Q : Value → Shared → Prop} (_F₀ : Fr h₀ L s.heap m)
    (hclos : closureFor scope env = pure cl) (hcell : ∀ y ∈ scope.names, y.2 ≠ .cell) (hkind : scope.kind = .function)
    (hnames : ∀ y ∈ scope.names, y.2 = .local → scope.names.lookup y.1 = some .local) (hx1 : scope.names.lookup n1 = some .local) (hx2 : scope.names.lookup n2 = some .local) (hx3 : scope.names.lookup n3 = some .local) (d12 : n1 ≠ n2) (d13 : n1 ≠ n3) (d23 : n2 ≠ n3)
    (h : wpAny (model prog w) A (eval iter env) (fun xv s₁ => WitSrc prog w A h₀ L m env elt ct n1 n2 n3 scope cl Q xv s₁) E s)
    (hs : ∀ x, foldedSetIterable iter env x = pure x := by intro _; rfl) :
    wpAny (model prog w) A (eval (.ListComp elt [⟨.Tuple [.Name n1 p1, .Name n2 p2, .Name n3 p3] k0 tp, iter, [ct], 0⟩] scope pos) env) Q E s := by
  rw [eval_ListComp]
  refine wpAny_comprehension_free (use := none) rfl hs hclos hkind hnames (wpAny_mono h (fun xv s₁ h₁ => ?_) fun _ _ e => e)
  obtain ⟨l, us, c, news, rs, Acc, rfl, hh, F, N, hl, hwit, hrs, hA0, step, fin⟩ := h₁
  have hus := hwit.length
  have hls : s₁.heap.IsList l us.toArray := ⟨_, (N _ hl).1, rfl, _, rfl⟩
  have hlt : l < s₁.heap.objs.size := Heap.lt_size (N _ hl).1
  refine wpAny_pyIter_list hls ?_
  generalize hI : s₁.heap.objs.size = I at *
  have hIn : h₀.get? I = none := by rw [← hI]; exact next_is_new F
  have hLlt : @LT.lt Nat _ L I := by rw [← hI]; exact F.ns.lt
  have hLI : L ≠ I := Nat.ne_of_lt hLlt
  have hltI : ∀ p ∈ news, @LT.lt Nat _ p.1 I := fun p hp => by rw [← hI]; exact Heap.lt_size (N p hp).1
  generalize hH1 : s₁.heap.push _ = H1
  have hit1 : H1.IsListIter I l 0 := by rw [← hH1, ← hI]; exact ⟨_, Heap.get?_push_size _ rfl, rfl, rfl⟩
  have up01 : ∀ b o, s₁.heap.get? b = some o → H1.get? b = some o := fun b o e => by rw [← hH1]; exact Heap.get?_push_of_some _ e
  have F1 : Fr h₀ L H1 m := F.keeps up01
  have N1 : News h₀ L H1 news := fun p hp => ⟨up01 _ _ (N p hp).1, (N p hp).2⟩
  have hsz1 : H1.objs.size = I + 1 := by rw [← hH1, Heap.size_push, hI]
  refine wpAny_newObj_type ?_
  dsimp only
  generalize hD : H1.objs.size = D
  have hDI : D = I + 1 := hD.symm.trans hsz1
  generalize hH2 : H1.push _ = H2
  have hsz2 : H2.objs.size = D + 1 := by rw [← hH2, Heap.size_push, hD]
  refine wpAny_newFunctionEnv hcell (by intro y hy; simp at hy) (fun H4 hns₁ hsb₁ => ?_) hkind
  dsimp only at hns₁ hsb₁ ⊢
  generalize hC : H2.objs.size = C at *
  have hCD : C = D + 1 := hsz2
  have up12 : ∀ b o, H1.get? b = some o → H2.get? b = some o := fun b o e => by rw [← hH2]; exact Heap.get?_push_of_some _ e
  have up24 : ∀ b o, b ≠ C → H2.get? b = some o → H4.get? b = some o := fun b o ne e => hsb₁.extBut b o ne (Heap.get?_push_of_some _ e)
  have ltH : ∀ b o, H2.get? b = some o → b ≠ C := fun b o e => by rw [← hC]; exact Nat.ne_of_lt (Heap.lt_size e)
  have up : ∀ b o, H1.get? b = some o → H4.get? b = some o := fun b o e => up24 b o (ltH _ _ (up12 _ _ e)) (up12 _ _ e)
  have eD : H4.get? D = some (LCg.lst []) := up24 _ _ (Nat.ne_of_lt (by omega)) (by rw [← hH2, ← hD]; exact Heap.get?_push_size _ rfl)
  have fresh₀ : ∀ q, @LE.le Nat _ I q → h₀.get? q = none := fun q hq => by
    cases e : h₀.get? q with
    | none => rfl
    | some o' =>
      have := Heap.lt_size (F.keep q o' e)
      rw [hI] at this
      exact absurd this (Nat.not_lt.mpr hq)
  have hDn : h₀.get? D = none := fresh₀ _ (by omega)
  have hCn : h₀.get? C = none := fresh₀ _ (by omega)
  have hDL : D ≠ L := Nat.ne_of_gt (by omega)
  have hCL : C ≠ L := Nat.ne_of_gt (by omega)
  have F4 : Fr h₀ L H4 m := F1.keeps up
  have N4 : News h₀ L H4 ((D, LCg.lst []) :: news) := fun p hp => by
    rcases List.mem_cons.mp hp with rfl | hp
    · exact ⟨eD, hDL, hDn⟩
    · exact ⟨up _ _ (N1 p hp).1, (N1 p hp).2⟩
  have hneI : l ≠ I := Nat.ne_of_lt (hltI _ hl)
  have hls4 : H4.IsList l us.toArray := ⟨_, (N4 _ (.tail _ hl)).1, rfl, _, rfl⟩
  have hit4 : H4.IsListIter I l 0 := hit1.at fun o e => up _ _ e
  have hW := Walks.list (prog := prog) (w := w) (A := A) hh I l hneI us.toArray
  have hnu : us.toArray.size = us.length := by simp
  have loop : ∀ s₃ : Shared, s₃ = { s₁ with heap := H4, toks := s₁.toks + ([] : List (Str × Value)).length } →
      codeAny (model prog w) A (.compLoop (.ListComp elt [⟨.Tuple [.Name n1 p1, .Name n2 p2, .Name n3 p3] k0 tp, iter, [ct], 0⟩] scope pos) 0 (.ref I) (.ref D) (compEnvC scope cl C env)) (compPost (model prog w) A E none Q (.ref D) C) s₃ := by
    rintro s₃ rfl
    refine compLoop_pt
      (fun k s' => ∃ h' tk i ys m', s' = { s₁ with heap := h', toks := tk } ∧ i ≤ us.length ∧ k = us.length + 1 - i ∧ ys.length ≤ i ∧ (h'.IsListIter I l i ∧ h'.IsList l us.toArray) ∧ Fr h₀ L h' m ∧ h'.Ns C m' ∧
        News h₀ L h' ((D, LCg.lst ys) :: news) ∧ Acc i ys) ?_ (us.length + 1)
      ⟨H4, _, 0, [], _, rfl, Nat.zero_le _, rfl, Nat.le_refl _, ⟨hit4, hls4⟩, F4, hns₁, N4, hA0⟩
    rintro k s' ⟨h', tk, i, ys, m', rfl, hi, rfl, hyl, hst', F', hn', N', hA⟩
    have neI : ∀ p ∈ (D, LCg.lst ys) :: news, @Ne Nat p.1 I := fun p hp => by
      rcases List.mem_cons.mp hp with rfl | hp
      · exact Nat.ne_of_gt (by dsimp only; omega)
      · exact Nat.ne_of_lt (hltI p hp)
    have neC : ∀ p ∈ (D, LCg.lst ys) :: news, @Ne Nat p.1 C := fun p hp => by
      rcases List.mem_cons.mp hp with rfl | hp
      · exact Nat.ne_of_lt (by dsimp only; omega)
      · exact Nat.ne_of_lt (by have := hltI p hp; omega)
    by_cases hlt : i < us.length
    · refine hW.item i _ _ _ (by omega) hst' fun v h₂ tk₂ hPv hst₂ hk₂ => ?_
      obtain ⟨T, a, b, c, t1, t2, t3, g1, g2, g3⟩ := hwit.get i (by omega)
      have hv : v = .ref T := by
        have e1 : us[i]? = some v := by simpa using hPv
        rw [g1] at e1
        exact (Option.some.inj e1).symm
      subst hv
      have F₂ := LCg.fr_but F' hk₂ hLI hIn
      have N₂ := LCg.news_but N' hk₂ neI
      have hn₂ : h₂.Ns C m' := hn'.at' fun o e => hk₂ _ o (by simp only [List.mem_singleton]; exact Nat.ne_of_gt (by omega)) e
      have ht : IsTup h₂ T #[.int a t1, .int b t2, .int c t3] := ⟨_, (N₂ _ (.tail _ g3)).1, rfl, _, rfl⟩
      refine wpAny_letOwnedTupleGo_listiter hst₂.1 ?_
      refine assign_Tuple_tuple hh ht rfl rfl fun h₅ he => ?_
      have he' : ∀ b o, h₂.get? b = some o → h₅.get? b = some o := fun b o e => he b o (Nat.ne_of_lt (Heap.lt_size e)) e
      refine assignInOrder_cons (wpAny_assign_Name (wpAny_storeName_local (lookup_relabel_local hx1) (hn₂.at' fun o e => he' _ o e) (fun h₆ hn₆ hs₆ => ?_) (by simp [compEnvC, relabel, hkind])))
      refine assignInOrder_cons (wpAny_assign_Name (wpAny_storeName_local (lookup_relabel_local hx2) hn₆ (fun h₇ hn₇ hs₇ => ?_) (by simp [compEnvC, relabel, hkind])))
      refine assignInOrder_cons (wpAny_assign_Name (wpAny_storeName_local (lookup_relabel_local hx3) hn₇ (fun h₃ hn₃ hs₃ => ?_) (by simp [compEnvC, relabel, hkind])))
      refine assignInOrder_nil ?_
      refine wpAny_tests_one ?_
      have old3 : ∀ b o, b ≠ C → h₂.get? b = some o → h₃.get? b = some o := fun b o hb e => hs₃.extBut b o hb (hs₇.extBut b o hb (hs₆.extBut b o hb (he' b o e)))
      have hIC : I ≠ C := Nat.ne_of_lt (by omega)
      have hlC : l ≠ C := Nat.ne_of_lt (by have := hltI _ hl; dsimp only at this; omega)
      have hst₃ : h₃.IsListIter I l (i + 1) ∧ h₃.IsList l us.toArray := ⟨hst₂.1.at fun o e => old3 _ _ hIC e, hst₂.2.at fun o e => old3 _ _ hlC e⟩
      obtain ⟨oI, heI, hcI⟩ := id hst₃.1
      obtain ⟨oC, heC, hoC⟩ := LCg.ns_obj hn₃
      have F₃ : Fr h₀ L h₃ m := (((F₂.keeps he').change hs₆ hCL hCn).change hs₇ hCL hCn).change hs₃ hCL hCn
      have N₃ : News h₀ L h₃ ((I, oI) :: (C, oC) :: (D, LCg.lst ys) :: news) := fun p hp => by
        rcases List.mem_cons.mp hp with rfl | hp
        · exact ⟨heI, Ne.symm hLI, hIn⟩
        · rcases List.mem_cons.mp hp with rfl | hp
          · exact ⟨heC, hCL, hCn⟩
          · exact ⟨old3 _ _ (neC p hp) (N₂ p hp).1, (N₂ p hp).2⟩
      have back : ∀ (h₄ : Heap), News h₀ L h₄ ((I, oI) :: (C, oC) :: (D, LCg.lst ys) :: news) → (h₄.IsListIter I l (i + 1) ∧ h₄.IsList l us.toArray) ∧ h₄.Ns C _ ∧ News h₀ L h₄ ((D, LCg.lst ys) :: news) := fun h₄ N₄ =>
        ⟨⟨⟨oI, (N₄ _ (.head _)).1, hcI⟩, ⟨_, (N₄ _ (.tail _ (.tail _ (.tail _ hl)))).1, rfl, _, rfl⟩⟩, hoC.ns (N₄ _ (.tail _ (.head _))).1, fun p hp => N₄ p (.tail _ (.tail _ hp))⟩
      refine wpAny_mono (step i a b c t1 t2 t3 I oI C oC D _ h₃ _ ys _ (by omega) g2 hoC (by simp [d12, d13]) (by simp [d23]) (by simp) F₃ N₃ hA) (fun ok s₄ h₄ => ?_) fun _ _ e => e
      cases ok with
      | true =>
        simp only [if_true] at h₄ ⊢
        refine wpAny_mono h₄ (fun z s₅ h₅ => ?_) fun _ _ e => e
        obtain ⟨h₅, tk₅, rfl, F₅, N₅, hA₅⟩ := h₅
        obtain ⟨st5, ns5, M5⟩ := back h₅ N₅
        have zD := M5 _ (.head _)
        refine append_at (hsz := by show ys.toArray.size ≤ sizeLine; rw [List.size_toArray, sizeLine_eq]; omega) zD.1 fun h₆ hs₆' hD₆ => ?_
        have hDC : C ≠ D := Nat.ne_of_gt (by omega)
        refine ⟨us.length + 1 - (i + 1), by omega, h₆, tk₅, i + 1, ys ++ [z], _, rfl, hlt, rfl, by simp; omega, ⟨st5.1.extBut hs₆'.extBut (Nat.ne_of_lt (by omega)), st5.2.extBut hs₆'.extBut (Nat.ne_of_lt (by have := hltI _ hl; dsimp only at this; omega))⟩, F₅.change hs₆' hDL hDn, ns5.sameBut hs₆' hDC, fun p hp => ?_, hA₅⟩
        rcases List.mem_cons.mp hp with rfl | hp
        · exact ⟨hD₆.trans (congrArg some (LCg.lst_snoc ys z)), hDL, hDn⟩
        · exact ⟨hs₆'.extBut _ _ (Nat.ne_of_lt (by have := hltI p hp; omega)) (M5 p (.tail _ hp)).1, (M5 p (.tail _ hp)).2⟩
      | false =>
        simp only [Bool.false_eq_true, if_false] at h₄ ⊢
        obtain ⟨h₅, tk₅, rfl, F₅, N₅, hA₅⟩ := h₄
        obtain ⟨st5, ns5, M5⟩ := back h₅ N₅
        exact ⟨us.length + 1 - (i + 1), by omega, h₅, tk₅, i + 1, ys, _, rfl, hlt, rfl, by omega, st5, F₅, ns5, M5, hA₅⟩
    · obtain rfl : i = us.length := Nat.le_antisymm hi (Nat.not_lt.mp hlt)
      refine hW.done _ _ _ (hnu ▸ hst') fun h₂ tk₂ hk₂ => ?_
      have F₂ := LCg.fr_but F' hk₂ hLI hIn
      have N₂ := LCg.news_but N' hk₂ neI
      have hn₂ : h₂.Ns C m' := hn'.at' fun o e => hk₂ _ o (by simp only [List.mem_singleton]; exact Nat.ne_of_gt (by omega)) e
      refine ⟨m', hn₂, fun h₄ hs₄ => fin ys D h₄ _ (hus ▸ hA) (F₂.change hs₄ hCL hCn) (fun p hp => ⟨hs₄.extBut _ _ (neC p hp) (N₂ p hp).1, (N₂ p hp).2⟩) fun p hp => by have := hltI p hp; omega⟩
  exact codeAny_compStart_list (loop _ rfl) (hW.self 0 _ _ _ ⟨hit4, hls4⟩ (loop _ rfl))
end
end
end PartLX6
section PartLX4
open PySem PySem.W PySem.Spec PySem.Calls PyProof.Rows
section
theorem booked {w : World} {h : Heap} (X : (hd.heap_1 w.params).In h) : NoneBooked h :=
  ⟨h.nsMap cStatics, .of_isNs (isNs_of_in X (by first | rfl | kernel_rfl! | with_unfolding_all rfl)), nsMap_none_of_in X (by first | rfl | kernel_rfl! | with_unfolding_all rfl) (by k_is)⟩
theorem booked_at {h₀ h : Heap} {L : Addr} {m : Str → Option Value} (b : NoneBooked h₀) (F : Fr h₀ L h m) : NoneBooked h := by
  obtain ⟨mc, hn, hk⟩ := b
  exact ⟨mc, hn.at' fun o e => F.keep _ _ e, hk⟩
end
end PartLX4
section PartLX7
open PySem PySem.W PySem.Spec PySem.Calls PyProof.Rows
section
noncomputable def selD (k : Int) (l : List (Int × Int × Int)) : List Int := (l.filter fun r => r.1 == k).map fun r => r.2.1 - r.2.2
theorem selD_snoc (k : Int) (l : List (Int × Int × Int)) (a b c : Int) : selD k (l ++ [(a, b, c)]) = if (a == k) = true then selD k l ++ [b - c] else selD k l := by
  unfold selD
  cases h : (a == k) <;> simp [List.filter_append, List.filter_cons, h]
theorem selD_step {k : Int} {rs : List (Int × Int × Int)} {i : Nat} {a b c : Int} (h : rs[i]? = some (a, b, c)) : selD k (rs.take (i + 1)) = if (a == k) = true then selD k (rs.take i) ++ [b - c] else selD k (rs.take i) := by
  have e : rs.take (i + 1) = rs.take i ++ [(a, b, c)] := by rw [List.take_add_one, h]; rfl
  rw [e, selD_snoc]
theorem selD_yes {k : Int} {rs : List (Int × Int × Int)} {i : Nat} {a b c : Int} (h : rs[i]? = some (a, b, c)) (e : a = k) : selD k (rs.take (i + 1)) = selD k (rs.take i) ++ [b - c] := by
  rw [selD_step h, if_pos (by simp [e])]
theorem selD_no {k : Int} {rs : List (Int × Int × Int)} {i : Nat} {a b c : Int} (h : rs[i]? = some (a, b, c)) (e : ¬ a = k) : selD k (rs.take (i + 1)) = selD k (rs.take i) := by
  rw [selD_step h, if_neg (by simp [e])]
theorem sel_none (f g : Int → Int) (k : Int) : ∀ n : Nat, (n : Int) < k → selD k (witR f g n) = []
  | 0, _ => rfl
  | n + 1, h => by
    have ih := sel_none f g k n (by omega)
    unfold witR
    split
    · rw [selD_snoc, if_neg (by simp; omega), ih]
    · exact ih
theorem sel_sum (f g : Int → Int) (k : Int) : ∀ n : Nat, 1 ≤ k → k ≤ n → (selD k (witR f g n)).sum = f k - g k
  | 0, h1, h2 => by omega
  | n + 1, h1, h2 => by
    unfold witR
    by_cases e : k = 1 + (n : Int)
    · subst e
      have hn := sel_none f g (1 + (n : Int)) n (by omega)
      by_cases q : f (1 + (n : Int)) = g (1 + (n : Int))
      · rw [if_neg (fun h => h q), hn, q]; simp
      · rw [if_pos q, selD_snoc, if_pos (by simp), hn]; simp
    · have ih := sel_sum f g k n h1 (by omega)
      split
      · rw [selD_snoc, if_neg (by simp; omega)]; exact ih
      · exact ih
theorem WitIn.rsLen {f g : Int → Int} {n : Nat} (h : n ≤ 900) : (witR f g n).length ≤ 1000 := Nat.le_trans (witR_length f g n) (by omega)
theorem ints_snoc {vs : List Value} {is : List Int} (h : IntsAre vs is) (x : Int) (t : Tok) : IntsAre (vs ++ [.int x t]) (is ++ [x]) := ints_append h (.cons x t .nil)
end
end PartLX7
section PartLX8
open PySem PySem.W PySem.Spec PySem.Calls PyProof.Rows
section
section
variable {prog : Program} {w : World} {A : Around} {E : Value → Shared → Prop} {s : Shared} {h₀ : Heap} {L l : Addr} {m : Str → Option Value} {news : List (Addr × Obj)} {vs : List Value}
theorem sum_walk_nz {x : Value} {Q : Value → Shared → Prop}
    (h : wpAny (model prog w) A.in1 (pyIter x) (fun it s₂ => ∃ I fp wr n P St val, it = .ref I ∧ Walks prog w A.in1 I fp wr n P St ∧ St 0 s₂.heap ∧ (∀ b ∈ fp, b < s₂.heap.objs.size) ∧
      (∀ i v, P i v → ∃ t, v = .int (val i) t) ∧
      ∀ h' tk t', 1 ≤ tk → (∀ b o, b ∉ wr → s₂.heap.get? b = some o → h'.get? b = some o) → Q (.int (preSum val n) t') { s₂ with heap := h', toks := tk }) E s) :
    wpAny (model prog w) A (call (.builtin "sum") [x]) Q E s := by
  refine call_function_tree F.kind_sum F.plain_sum F.entry_sum (F.args_sum1 _) ?_
  unfold Builtin.«sum»
  simp -iota only [List.length_cons, List.length_nil]
  rw [if_neg (by decide)]
  refine wpAny_bind (wpAny_of_eq (show Builtin.Builtins.bindParams "sum" ["start"] 0 { } = pure [none] from rfl) ?_)
  refine wpAny_bind (wpAny_mono h (fun it s₂ h₂ => ?_) fun _ _ e => e)
  obtain ⟨I, fp, wr, n, P, St, val, rfl, W, hst, hfp, hval, hQ⟩ := h₂
  refine wpAny_bind (wpAny_mkInt ?_)
  refine wpAny_bind (wpAny_pure ?_)
  simp only [List.forIn_cons, List.forIn_nil]
  refine wpAny_bind (wpAny_bind (wpAny_bind (wpAny_isInstance (T := "int") (b := false) (typeIs_int _ _ _) PySem.sub_int_str ?_)))
  simp -iota only [Bool.false_eq_true, if_false]
  refine wpAny_pure (wpAny_bind (wpAny_bind (wpAny_isInstance (T := "int") (b := false) (typeIs_int _ _ _) PySem.sub_int_bytes ?_)))
  simp -iota only [Bool.false_eq_true, if_false]
  refine wpAny_pure (wpAny_bind (wpAny_bind (wpAny_isInstance (T := "int") (b := false) (typeIs_int _ _ _) PySem.sub_int_bytearray ?_)))
  simp -iota only [Bool.false_eq_true, if_false]
  refine wpAny_pure (wpAny_pure ?_)
  refine wpAny_bind (wpAny_newObj_type ?_)
  have hSf : s₂.heap.objs.size ∉ fp := fun hm => Nat.lt_irrefl _ (hfp _ hm)
  refine wpAny_pure ⟨plainId_quiet F.plain_sum_loop _, codeAny_with_toks (n := 1) (Nat.le_add_left 1 _) (codeAny_sum_loopG W val hval s₂.heap.objs.size hSf n 0 _ s₂.toks 0 0 (Or.inl rfl) rfl (Nat.zero_le _)
    (W.frame _ _ _ hst fun b _ o e => Heap.get?_push_of_some _ e) (Heap.get?_push_size _ rfl) fun h' tk t' hk h1 => ?_)⟩
  exact hQ h' tk t' h1 fun b o hbw e => hk b o hbw (Nat.ne_of_lt (Heap.lt_size e)) (Heap.get?_push_of_some _ e)
theorem sum_list_nz {xs : Array (Int × Tok)} {Q : Value → Shared → Prop} (hh : A.handled = none) (hl : s.heap.IsList l (intItems xs))
    (h : ∀ h' tk t', 1 ≤ tk → (∀ b o, s.heap.get? b = some o → h'.get? b = some o) → Q (.int (preSum (numAt xs) xs.size) t') { s with heap := h', toks := tk }) :
    wpAny (model prog w) A (call (.builtin "sum") [.ref l]) Q E s := by
  refine sum_walk_nz (iter_intList hl fun s₂ e st hfp hlI => ?_)
  subst e
  refine ⟨_, _, _, _, _, _, numAt xs, rfl, Walks.list (A := A.in1) hh _ l hlI (intItems xs), st, hfp, (fun _ _ => intItems_at), fun h' tk t' h1 hk => ?_⟩
  have := h h' tk t' h1 (old_kept hk)
  simpa [intItems] using this
theorem sum_ints_nz {ns : List Int} {Q : Value → Shared → Prop} (F : Fr h₀ L s.heap m) (N : News h₀ L s.heap news) (hh : A.handled = none) (hl : s.heap.IsList l vs.toArray) (hi : IntsAre vs ns)
    (h : ∀ h' tk t', 1 ≤ tk → Fr h₀ L h' m → News h₀ L h' news → Q (.int ns.sum t') { s with heap := h', toks := tk }) : wpAny (model prog w) A (call (.builtin "sum") [.ref l]) Q E s := by
  obtain ⟨xs, hx⟩ := hi.allInts.items
  have hl' : s.heap.IsList l (intItems xs) := hx ▸ hl
  refine sum_list_nz hh hl' fun h' tk t' h1 hk => ?_
  have e1 : ns = xs.toList.map (·.1) := by
    rw [← nums_intItems, ← hx]
    exact (show numsOf vs.toArray.toList = ns from hi.numsOf).symm
  have e2 : preSum (numAt xs) xs.size = ns.sum := by
    rw [preSum_eq, List.take_of_length_le (by simp), e1]
  rw [e2]
  exact h h' tk t' h1 (F.keeps hk) (N.grown hk)
end
end
end PartLX8
section PartLX9
open PySem PySem.W PySem.Spec PySem.Calls PyProof.Rows
section
theorem firsts_len (hu : UInt64) : ∀ (n : Nat) (l : List UInt64), (firsts hu n l).length = n
  | 0, _ => rfl
  | n + 1, l => by show (_ :: firsts hu n (stp hu l)).length = n + 1; rw [List.length_cons, firsts_len hu n]
theorem lasts_len (hu : UInt64) : ∀ (n : Nat) (l : List UInt64), (lasts hu n l).length = n
  | 0, _ => rfl
  | n + 1, l => by show (lasts hu n (stp hu l) ++ [_]).length = n + 1; rw [List.length_append, lasts_len hu n]; rfl
theorem fr_one {n : Nat} : Float64.ofFrac (decide ((n : Int) < 0) != decide ((64 : Int) < 0)) (n : Int).natAbs (Int.natAbs 64) = Float64.ofFrac false n 64 := by
  have : decide ((n : Int) < 0) = false := by simp
  rw [this]; rfl
theorem fr_two {a b : Nat} : Float64.ofFrac (decide (6 * (a : Int) * (b : Int) < 0) != decide ((4096 : Int) < 0)) (6 * (a : Int) * (b : Int)).natAbs (Int.natAbs 4096) = Float64.ofFrac false (6 * (a * b)) 4096 := by
  have e : 6 * (a : Int) * (b : Int) = ((6 * (a * b) : Nat) : Int) := by push_cast; rw [Int.mul_assoc]
  rw [e]
  have : decide (((6 * (a * b) : Nat) : Int) < 0) = false := by
    rw [decide_eq_false_iff_not]; omega
  rw [this]; rfl
theorem prod_le {a b : Nat} (h1 : 1 ≤ a) (h2 : a ≤ 10) (h3 : 1 ≤ b) (h4 : b ≤ 10) : 1 ≤ a * b ∧ a * b ≤ 100 := by
  have e1 := Nat.mul_le_mul h1 h3
  have e2 := Nat.mul_le_mul h2 h4
  omega
theorem prod_int {a b : Nat} (h1 : 1 ≤ a) (h2 : a ≤ 10) (h3 : 1 ≤ b) (h4 : b ≤ 10) : 6 ≤ 6 * (a : Int) * (b : Int) ∧ 6 * (a : Int) * (b : Int) ≤ 600 := by
  have e : 6 * (a : Int) * (b : Int) = ((6 * (a * b) : Nat) : Int) := by push_cast; rw [Int.mul_assoc]
  have := prod_le h1 h2 h3 h4
  omega
theorem pts {ys : List Value} {F : Nat → Int} (h1 : ys.length = 4) (h2 : ∀ j, j < 4 → ∃ z, ys[j]? = some z ∧ ∃ t, t ≠ 0 ∧ z = .float (Float64.ofInt (F j)) t) (hb : ∀ j, j < 4 → -64 ≤ F j ∧ F j ≤ 64) :
    ∃ p0 p1 p2 p3 b0 b1 b2 b3, Fls ys [b0, b1, b2, b3] ∧ (-64 ≤ p0 ∧ p0 ≤ 64) ∧ (-64 ≤ p1 ∧ p1 ≤ 64) ∧ (-64 ≤ p2 ∧ p2 ≤ 64) ∧ (-64 ≤ p3 ∧ p3 ≤ 64) ∧ Dya.Dy 0 p0 b0 ∧ Dya.Dy 0 p1 b1 ∧ Dya.Dy 0 p2 b2 ∧ Dya.Dy 0 p3 b3 := by
  have q : ∀ j, j < 4 → Dya.Dy 0 (F j) (Float64.ofInt (F j)) := fun j hj => Dya.dy_int (by have := hb j hj; omega)
  refine ⟨F 0, F 1, F 2, F 3, _, _, _, _, Fls.of_get (by rw [h1]; rfl) fun i hi => ?_, hb 0 (by decide), hb 1 (by decide), hb 2 (by decide), hb 3 (by decide), q 0 (by decide), q 1 (by decide), q 2 (by decide), q 3 (by decide)⟩
  have hi4 : i < 4 := hi
  obtain ⟨z, e, t, ht, rfl⟩ := h2 i hi4
  have hc : i = 0 ∨ i = 1 ∨ i = 2 ∨ i = 3 := by omega
  rcases hc with rfl | rfl | rfl | rfl <;> exact ⟨t, ht, e⟩
theorem pow_all : ∀ o : Fin 11, 1 ≤ o.val → (fun x : Int => 0 < x ∧ x < 65536 ^ 2 ∧ (((Builtin.Int.intBits x : Nat) : Int) + 16 - 1).fdiv 16 = ((2 : Nat) : Int) ∧ 0 < x * x ∧ x * x < 65536 ^ 3 ∧ (((Builtin.Int.intBits (x * x) : Nat) : Int) + 16 - 1).fdiv 16 = ((3 : Nat) : Int) ∧ 0 < x * x * x ∧ x * x * x < 65536 ^ 4 ∧ (((Builtin.Int.intBits (x * x * x) : Nat) : Int) + 16 - 1).fdiv 16 = ((4 : Nat) : Int)) (32 - 3 * (o.val : Int) + 3 * (o.val : Int) * 2 ^ Int.toNat 16) := by
  decide +kernel
theorem pow_ok {o : Nat} (h1 : 1 ≤ o) (h2 : o ≤ 10) : PowOK (32 - 3 * (o : Int) + 3 * (o : Int) * 2 ^ Int.toNat 16) := by
  obtain ⟨g1, g2, g3, g4, g5, g6, g7, g8, g9⟩ := pow_all ⟨o, Nat.lt_succ_of_le h2⟩ h1
  exact ⟨g1, g2, g3, g4, g5, g6, g7, g8, g9⟩
theorem weigh_ok {p0 p1 p2 p3 : Int} {o : Nat} {b0 b1 b2 b3 : UInt64} (g0 : -64 ≤ p0 ∧ p0 ≤ 64) (g1 : -64 ≤ p1 ∧ p1 ≤ 64) (g2 : -64 ≤ p2 ∧ p2 ≤ 64) (g3 : -64 ≤ p3 ∧ p3 ≤ 64) (l1 : 1 ≤ o) (m1 : o ≤ 10)
    (h0 : Dya.Dy 0 p0 b0) (h1 : Dya.Dy 0 p1 b1) (h2 : Dya.Dy 0 p2 b2) (h3 : Dya.Dy 0 p3 b3) : WeighOK (32 - 3 * (o : Int) + 3 * (o : Int) * 2 ^ Int.toNat 16) [b0, b1, b2, b3] (firsts (Float64.ofFrac false o 64) 4 [b0, b1, b2, b3]) (lasts (Float64.ofFrac false o 64) 4 [b0, b1, b2, b3]) :=
  Dya.weigh g0 g1 g2 g3 l1 m1 rfl (by have e16 : (2 : Int) ^ Int.toNat 16 = 65536 := by decide
                                      rw [e16]) (Dya.dy_frac (k := 6) (by omega) (by decide)) h0 h1 h2 h3
theorem plain_ok {p0 p1 p2 p3 : Int} {a b : Nat} {b0 b1 b2 b3 : UInt64} (g0 : -64 ≤ p0 ∧ p0 ≤ 64) (g1 : -64 ≤ p1 ∧ p1 ≤ 64) (g2 : -64 ≤ p2 ∧ p2 ≤ 64) (g3 : -64 ≤ p3 ∧ p3 ≤ 64) (l1 : 1 ≤ a) (m1 : a ≤ 10) (l2 : 1 ≤ b) (m2 : b ≤ 10)
    (h0 : Dya.Dy 0 p0 b0) (h1 : Dya.Dy 0 p1 b1) (h2 : Dya.Dy 0 p2 b2) (h3 : Dya.Dy 0 p3 b3) : Dya.Plain p0 p1 p2 p3 a b (Float64.ofFrac false a 64) (Float64.ofFrac false b 64) (Float64.ofFrac false (6 * (a * b)) 4096) b0 b1 b2 b3 := by
  have hp := prod_le l1 m1 l2 m2
  have e : 6 * (a : Int) * (b : Int) = ((6 * (a * b) : Nat) : Int) := by push_cast; rw [Int.mul_assoc]
  exact Dya.plain g0 g1 g2 g3 l1 m1 l2 m2 (Dya.dy_frac (k := 6) (by omega) (by decide)) (Dya.dy_frac (k := 6) (by omega) (by decide)) (by rw [e]; exact Dya.dy_frac (k := 12) (by omega) (by decide)) h0 h1 h2 h3
end
end PartLX9
section PartLW
open PySem PySem.W PySem.Spec PySem.Calls PyProof.Rows
section
theorem max_six {a b c d e f M : Int} (g0 : a ≤ M) (g1 : b ≤ M) (g2 : c ≤ M) (g3 : d ≤ M) (g4 : e ≤ M) (g5 : f ≤ M) (h : M = a ∨ M = b ∨ M = c ∨ M = d ∨ M = e ∨ M = f) : max (max (max a b) c) (max (max d e) f) = M := by
  refine Int.le_antisymm (Int.max_le.2 ⟨Int.max_le.2 ⟨Int.max_le.2 ⟨g0, g1⟩, g2⟩, Int.max_le.2 ⟨Int.max_le.2 ⟨g3, g4⟩, g5⟩⟩) ?_
  rcases h with rfl | rfl | rfl | rfl | rfl | rfl
  · exact Int.le_trans (Int.le_max_left _ b) (Int.le_trans (Int.le_max_left _ c) (Int.le_max_left _ _))
  · exact Int.le_trans (Int.le_max_right a _) (Int.le_trans (Int.le_max_left _ c) (Int.le_max_left _ _))
  · exact Int.le_trans (Int.le_max_right _ _) (Int.le_max_left _ _)
  · exact Int.le_trans (Int.le_max_left _ e) (Int.le_trans (Int.le_max_left _ f) (Int.le_max_right _ _))
  · exact Int.le_trans (Int.le_max_right d _) (Int.le_trans (Int.le_max_left _ f) (Int.le_max_right _ _))
  · exact Int.le_trans (Int.le_max_right _ _) (Int.le_max_right _ _)
theorem six_bd {a b c d e f M : Int} (h : M = a ∨ M = b ∨ M = c ∨ M = d ∨ M = e ∨ M = f) (ha : a ≤ 6) (hb : b ≤ 6) (hc : c ≤ 6) (hd : d ≤ 6) (he : e ≤ 6) (hf : f ≤ 6) : M ≤ 6 := by
  rcases h with rfl | rfl | rfl | rfl | rfl | rfl <;> assumption
theorem le6 {r : Int} (h : 0 ≤ r ∧ r < 6) : r ≤ 6 := Int.le_of_lt h.2
theorem le36 {r : Int} (h : 0 ≤ r ∧ r < 3) : r ≤ 6 := Int.le_of_lt (Int.lt_trans h.2 (by decide))
theorem lnA {x y z c : Nat} (h : x ≤ 6) (h1 : y ≤ 6) (h2 : z ≤ 6) (hc : 20 ≤ c) : x + (0 + 1) + y + (0 + 1) + z ≤ c := Nat.le_trans (Nat.add_le_add (Nat.add_le_add_right (Nat.add_le_add (Nat.add_le_add_right h _) h1) _) h2) hc
theorem lnB {x y c : Nat} (h : x ≤ 6) (h1 : y ≤ 6) (hc : 14 ≤ c) : x + (0 + 1) + y + (0 + 1) ≤ c := Nat.le_trans (Nat.add_le_add_right (Nat.add_le_add (Nat.add_le_add_right h _) h1) _) hc
theorem lnC {x y c : Nat} (h : x ≤ 6) (h1 : y ≤ 6) (hc : 13 ≤ c) : x + (0 + 1) + y ≤ c := Nat.le_trans (Nat.add_le_add (Nat.add_le_add_right h _) h1) hc
theorem lnD {x c : Nat} (h : x ≤ 6) (hc : 7 ≤ c) : x + (0 + 1) ≤ c := Nat.le_trans (Nat.add_le_add_right h _) hc
theorem lnE {x c : Nat} (h : x ≤ 6) (hc : 6 ≤ c) : x ≤ c := Nat.le_trans h hc
local macro_rules | `(tactic| walk_at "len") => `(tactic| (simp only [List.length_append, sp_len, List.length_cons, List.length_nil]; first | exact lnA ‹_› ‹_› ‹_› (by decide) | exact lnB ‹_› ‹_› (by decide) | exact lnC ‹_› ‹_› (by decide) | exact lnD ‹_› (by decide) | exact lnE ‹_› (by decide) | omega))
theorem law_len {vs ws : List Value} {ns : List Int} (h : IntsAre vs ns) (k : IntsAre ws (List.drop ((ns.length : Int)).toNat [1, 2, 0, 3, 3, 1, 9, 4])) (hc : ¬ (((63 : Nat) : Int) < (ns.length : Int))) : vs.length + ws.length ≤ 100000 := by
  rw [h.length, k.length, List.length_drop]
  simp
  omega
theorem law_eight (ns : List Int) : 8 ≤ (ns ++ List.drop ((ns.length : Int)).toNat [1, 2, 0, 3, 3, 1, 9, 4]).length := by
  rw [List.length_append, List.length_drop]
  simp
  omega
theorem fm (d : Int) {k : Int} (h : 0 < k) : 0 ≤ d.fmod k ∧ d.fmod k < k := ⟨Int.fmod_nonneg_of_pos d h, Int.fmod_lt_of_pos d h⟩
theorem ints8 {vs : List Value} {ns : List Int} (h : IntsAre vs ns) (hl : 8 ≤ ns.length) : ∃ d0 d1 d2 d3 d4 d5 d6 d7 t0 t1 t2 t3 t4 t5 t6 t7, vs[(0 : Int).toNat]? = some (.int d0 t0) ∧ vs[(1 : Int).toNat]? = some (.int d1 t1) ∧ vs[(2 : Int).toNat]? = some (.int d2 t2) ∧ vs[(3 : Int).toNat]? = some (.int d3 t3) ∧ vs[(4 : Int).toNat]? = some (.int d4 t4) ∧ vs[(5 : Int).toNat]? = some (.int d5 t5) ∧ vs[(6 : Int).toNat]? = some (.int d6 t6) ∧ vs[(7 : Int).toNat]? = some (.int d7 t7) := by
  have g := ints_get h
  obtain ⟨t0, e0⟩ := g 0 (by omega)
  obtain ⟨t1, e1⟩ := g 1 (by omega)
  obtain ⟨t2, e2⟩ := g 2 (by omega)
  obtain ⟨t3, e3⟩ := g 3 (by omega)
  obtain ⟨t4, e4⟩ := g 4 (by omega)
  obtain ⟨t5, e5⟩ := g 5 (by omega)
  obtain ⟨t6, e6⟩ := g 6 (by omega)
  obtain ⟨t7, e7⟩ := g 7 (by omega)
  exact ⟨_, _, _, _, _, _, _, _, t0, t1, t2, t3, t4, t5, t6, t7, e0, e1, e2, e3, e4, e5, e6, e7⟩
local macro_rules | `(tactic| kcj_all) => `(tactic| first | (with_reducible kcj_in) | kcj_in)
local macro_rules | `(tactic| walk_at "binaryOp Add ref ref") => `(tactic| (k_here; refine Stop.out ?_))
theorem led_cut {h₀ h : Heap} {L : Addr} {a b c d e : Addr × Obj} (N : News h₀ L h [a, b, c, d, e]) : News h₀ L h [a, d, e] := fun p hp => N p (by
  simp only [List.mem_cons, List.not_mem_nil, or_false] at hp ⊢
  rcases hp with h | h | h <;> simp [h])
local macro_rules | `(tactic| walk_at "subscriptTail") => `(tactic| (k_here; (with_reducible show wpAny _ _ (subscriptTail (PySem.Expr.List _ _) _ _ _) _ _ _); refine Stop.out ?_))
local macro_rules | `(tactic| walk_at "subscriptTail Name Constant ref int") => `(tactic| (k_here; k_dflt (refine' item_at (by is_list) (by decide) (by decide) (by first | assumption | rfl) ?_)))
local macro_rules | `(tactic| walk_at "binaryOp Mult str int") => `(tactic| (k_here; first | (k_dflt (refine' mul_sp (by omega) (by omega) ?_); intro t9 k9) | refine Stop.out ?_))
local macro_rules | `(tactic| walk_at "binaryOp Add str str") => `(tactic| (k_here; k_dflt (refine' add_txt ?a ?b ?y ?_; (case y => first | exact tab_txt | exact xend_txt | exact rfl); (case a => walk_at "len"); (case b => walk_at "len")); intro t9 k9))
local macro_rules | `(tactic| k_all) => `(tactic| first | assumption)
local macro_rules | `(tactic| walk_at "eval ListComp") => `(tactic| (k_here; refine Stop.out ?_))
local macro_rules | `(tactic| walk_at "call builtin:sum") => `(tactic| (k_here; k_dflt (refine' sum_ints_nz (by k_asm) (by k_asm) (by rfl) (by is_list) (by assumption) ?_); intro h9 tk9 t9 nz9 F9 N9))
local macro_rules | `(tactic| walk_at "call type:float") => `(tactic| (k_here; refine Stop.out ?_))
theorem nz_of {t : Tok} (h : @LE.le Nat _ 1 t) : t ≠ 0 := Nat.ne_of_gt h
theorem dep_ok {k : Nat} (h : k ≤ 100) : callerA.depth + 1 + k < recursionLimit := by
  show 1 + 300 + 1 + k < 1000
  omega
theorem un_ok {k : Nat} (h : k ≤ 1000) : callerA.units + 3 + k < cLine := by
  show 4 + 3 + k < 9900
  omega
theorem cps_txt (a : List Nat) : (txt (a ++ [120, 32, 9])).cps.toList = a ++ 120 :: [32, 9] := rfl
theorem lead_ok (r0 r1 r2 : Int) : ∀ c ∈ sp r0 ++ [9] ++ sp r1 ++ [9] ++ sp r2, c = 32 ∨ c = 9 := by
  intro c hc
  simp only [List.mem_append, sp, List.mem_replicate, List.mem_singleton] at hc
  rcases hc with (((⟨_, h⟩ | h) | ⟨_, h⟩) | h) | ⟨_, h⟩ <;> simp [h]
local macro_rules | `(tactic| walk_at "call ref") => `(tactic| (k_here; refine Stop.out ?_))
local macro_rules | `(tactic| walk_at "call ref") => `(tactic| (k_here; (with_reducible show wpAny _ _ (call (Value.ref 105) _ _) _ _ _); (with_unfolding_all refine' c_ws ?h1 ?h2 ?h3 ?k1 ?k2 ?k3 ?k4 ?k5 ?k6 ?k8 ?k9 ?_; (case h1 => exact cps_txt _); (case h2 => exact lead_ok _ _ _); (case h3 => walk_at "len"); walk_at "cK6"; (case k8 => exact dep_ok (by decide)); (case k9 => exact un_ok (by decide))); intro D9 d9 T9 T8 v9 z9 k1 k2 k3 k4 k5 tz9 tn9 tb9 q9 h9 tk9 i9 ld9 l9 l8 l7 F9 N9; (try k_lt ld9); (try dsimp only)))
local macro_rules | `(tactic| walk_at "call ref") => `(tactic| (k_here; (with_reducible show wpAny _ _ (call (Value.ref 145) _ _) _ _ _); (with_unfolding_all refine' c_turns ?k1 ?k2 ?k3 ?k4 ?k5 ?k6 ?kl ?kf ?kn ?k8 ?k9 ?_; (case k4 => k_asm); (case kl => (repeat (first | with_reducible exact List.mem_cons_self | refine List.mem_cons_of_mem _ ?_))); (case kf => assumption); (case kn => assumption); (case k1 => k_asm); (case k2 => k_asm); (case k3 => k_asm); (case k5 => k_asm); (case k6 => exact rfl); (case k8 => exact dep_ok (by decide)); (case k9 => exact un_ok (by decide))); intro t9 h9 tk9 F9 N9; (try dsimp only)))
local macro_rules | `(tactic| walk_at "compareOp NotEq ref ref") => `(tactic| (k_here; refine Stop.out ?_))
theorem tok_any {α : Type} {M : Model} {A : Around} {t : Sem α} {Q : α → Shared → Prop} {E : Value → Shared → Prop} {h : Heap} {g : Array GenState} {d : Drawn} {n : Nat} {o : OsState} (k : ∀ n, wpAny M A t Q E ⟨h, g, d, n, o⟩) : wpAny M A t Q E ⟨h, g, d, n + 1 + 1, o⟩ := k _
local macro_rules | `(tactic| walk_at "execs cons") => `(tactic| (k_here; first | (with_reducible refine tok_any ?_; intro tkk) | ((with_reducible refine wpAny_execs_cons ?_); (try dsimp only); k_fold)))
theorem law_holds : PySem.Challenge.rw_sh0036_01.Holds := by
  w_top off
  refine hd ?_
  k_go0
  (all_goals try k_fold)
  rename_i w0 s0 s1 mg mb G Y fa o pm cd doc ho hcd hg Xm V T B TE TW ns hs hlay hL hr hl2 a1 a2 sc vs a3 hL2 ra w1 r0 hI hr2 hc1 hc2 hD h₁ tk₁ oT dT X0 X' T' K' F' N' l0
  k_steps
  unfold Stop
  refine kba_turn (value' := PySem.Expr.Name (PySem.Str.ofString "q") ⟨0, 0, 0, 0⟩) (fun _ => rfl) ?_
  refine' kmk_slice_ints (vs := [Value.int 1 _, Value.int 2 _, Value.int 0 _, Value.int 3 _, Value.int 3 _, Value.int 1 _, Value.int 9 _, Value.int 4 _]) ?zF ?zN ?zl ?zp ?zq ?zi ?zm ?zc ?_ ?zs ?zt ?zz
  case zF => k_asm
  case zN => k_asm
  case zl => is_list
  case zp => kmk_part
  case zq => kmk_part
  case zi => exact .cons _ _ (.cons _ _ (.cons _ _ (.cons _ _ (.cons _ _ (.cons _ _ (.cons _ _ (.cons _ _ .nil)))))))
  case zm => exact kmk_from (.cons _ _ (.cons _ _ (.cons _ _ (.cons _ _ (.cons _ _ (.cons _ _ (.cons _ _ (.cons _ _ .nil)))))))) (by omega)
  case zc => exact rfl
  case zs => with_unfolding_all rfl
  case zt => kmk_pure
  case zz => (rw [sizeLine_eq]; simp)
  intro D' ws' h' F' N' l2 hI' hC' hL'
  have hsz := hI.length
  refine add_L F' N' (Heap.IsList.at lifted fun o e => F'.keep _ _ e) (News.isList N' (.head _)) ?_ ?_
  · exact law_len hI hI' hc1
  intro D3 h3 F3 N3 l3
  have hall := ints_append hI hI'
  have h8 := law_eight ns
  obtain ⟨d0, d1, d2, d3, d4, d5, d6, d7, t0, t1, t2, t3, t4, t5, t6, t7, e0, e1, e2, e3, e4, e5, e6, e7⟩ := ints8 hall h8
  have N4 := led_cut N3
  clear hall h8 hI' hC' hL' N3 l3 l2
  generalize hdv : vs ++ ws' = dv at N4 e0 e1 e2 e3 e4 e5 e6 e7
  k_steps
  unfold Stop
  have f0 := fm d0 (k := 4) (by decide)
  have f1 := fm d1 (k := 6) (by decide)
  have f2 := fm d2 (k := 3) (by decide)
  have f3 := fm d3 (k := 6) (by decide)
  have f4 := fm d4 (k := 6) (by decide)
  have f5 := fm d5 (k := 3) (by decide)
  have f6 := fm d6 (k := 10) (by decide)
  have f7 := fm d7 (k := 10) (by decide)
  clear e0 e1 e2 e3 e4 e5 e6 e7
  rename_i Dr _ _ _ _ _ _ _ _ _ _ _ F5 N5 _
  have b0 : 3 ≤ 3 + d0.fmod 4 ∧ 3 + d0.fmod 4 ≤ 6 := by omega
  have b6 : 1 ≤ 1 + d6.fmod 10 ∧ 1 + d6.fmod 10 ≤ 10 := by omega
  have b7 : 1 ≤ 1 + d7.fmod 10 ∧ 1 + d7.fmod 10 ≤ 10 := by omega
  have N6 : News _ _ _ [(Dr, _), (s1.heap.objs.size + 1, oT), (38, tabObj #[])] := cb_drop N5 (by kcj_all)
  clear N5
  generalize 3 + d0.fmod 4 = r0 at F5 N6 b0 ⊢
  generalize d1.fmod 6 = r1 at F5 N6 f1 ⊢
  generalize d2.fmod 3 = r2 at F5 N6 f2 ⊢
  generalize d3.fmod 6 = r3 at F5 N6 f3 ⊢
  generalize d4.fmod 6 = r4 at F5 N6 f4 ⊢
  generalize d5.fmod 3 = r5 at F5 N6 f5 ⊢
  generalize 1 + d6.fmod 10 = one at F5 N6 b6 ⊢
  generalize 1 + d7.fmod 10 = two at F5 N6 b7 ⊢
  clear f0 f6 f7 hdv
  have z0 : r0.toNat ≤ 6 := Int.toNat_le.2 b0.2
  have z1 : r1.toNat ≤ 6 := Int.toNat_le.2 (le6 f1)
  have z2 : r2.toNat ≤ 6 := Int.toNat_le.2 (le36 f2)
  have z3 : r3.toNat ≤ 6 := Int.toNat_le.2 (le6 f3)
  have z4 : r4.toNat ≤ 6 := Int.toNat_le.2 (le6 f4)
  have z5 : r5.toNat ≤ 6 := Int.toNat_le.2 (le36 f5)
  refine mul_sp (by omega) (by omega) (fun t9 k9 => ?_)
  k_steps
  unfold Stop
  rename_i D1 e1 T11 T12 v1 z1 _ _ _ _ _ _ _ _ q1 _ _ i1 la1 la2 la3 _ _ ld1 _ _ D2 e2 T21 T22 v2 z2 _ _ _ _ _ _ _ _ q2 _ _ i2 lb1 lb2 lb3 F7 N7 ld2
  have wb1 := wsF_bound (lead3 r0 r1 r2)
  have wb2 := wsF_bound (lead3 r3 r4 r5)
  have wl1 := lead3_len (r0 := r0) (r1 := r1) (r2 := r2) (by omega) (by omega) (by omega)
  have wl2 := lead3_len (r0 := r3) (r1 := r4) (r2 := r5) (by omega) (by omega) (by omega)
  with_unfolding_all refine' c_neq i1 ?y1 i2 ?y2 ?y3 ?y4 ?y5 ?y6 ?y7 ?y8 ?w5 ?w6 ?w7 ?w8 ?k1 ?k2 ?k3 ?k4 ?k5 ?k6 ?k8 ?k9 ?_
  case k4 => exact N7
  case y1 => exact Nat.le_trans wb1.1 (Nat.le_trans (Nat.add_le_add_right wl1 1) (by decide))
  case y2 => exact Nat.le_trans wb2.1 (Nat.le_trans (Nat.add_le_add_right wl2 1) (by decide))
  case y3 => exact Nat.le_trans wb1.2.1 (Nat.le_trans wl1 (by decide))
  case y4 => exact Nat.le_trans wb2.2.1 (Nat.le_trans wl2 (by decide))
  case y5 => exact .tail _ (.tail _ (.tail _ (.tail _ (.head _))))
  case y6 => exact .tail _ (.tail _ (.tail _ (.tail _ (.tail _ (.head _)))))
  case y7 => exact .tail _ (.tail _ (.tail _ (.tail _ (.tail _ (.tail _ (.head _))))))
  case y8 => exact .tail _ (.tail _ (.tail _ (.tail _ (.tail _ (.tail _ (.tail _ (.head _)))))))
  case w5 => exact .head _
  case w6 => exact .tail _ (.head _)
  case w7 => exact .tail _ (.tail _ (.head _))
  case w8 => exact .tail _ (.tail _ (.tail _ (.head _)))
  case k1 => k_asm
  case k2 => k_asm
  case k3 => k_asm
  case k5 => k_asm
  case k6 => exact rfl
  case k8 => exact dep_ok (by decide)
  case k9 => exact un_ok (by decide)
  intro Dt us ct led h8 tk8 hw hsub hlt F8 N8
  obtain ⟨rest, N9, w9, rT, r38, rsub⟩ := told_led N8 hw hsub (cT := s1.heap.objs.size + 1) (ot := oT) (ps := #[]) (by simp) (by simp) dT
  have mDr := rsub _ (.tail _ (.tail _ (.tail _ (.tail _ (.tail _ (.tail _ (.tail _ (.tail _ (.head _))))))))) (by dsimp only; omega) (by dsimp only; omega)
  have hDt1 : @LT.lt Nat _ (s1.heap.objs.size + 1) Dt := hlt (s1.heap.objs.size + 1, oT) (by simp)
  have hDt2 : @LT.lt Nat _ 38 Dt := hlt (38, tabObj #[]) (by simp)
  clear N8 hw hsub hlt rsub N7 F7 wb1 wb2 i1 i2
  k_steps
  rename_i oT2 F9 N10 dT2
  have ho1 := ws_ok (r0 := r0) (r1 := r1) (r2 := r2) (by omega) (by omega) (by omega) (by omega) (by omega) (by omega)
  have ho2 := ws_ok (r0 := r3) (r1 := r4) (r2 := r5) (by omega) (by omega) (by omega) (by omega) (by omega) (by omega)
  refine max_list_N (vs := [_, _, _, _, _, _]) (ns := [r0, r1, r2, r3, r4, r5]) rfl F9 N10 (News.isList N10 (.tail _ (.tail _ (.tail _ mDr)))) (.cons _ _ (.cons _ _ (.cons _ _ (.cons _ _ (.cons _ _ (.cons _ _ .nil)))))) (by simp) ?_
  intro h9 M tM tk9 F10 N11 hM1 hM2
  have g0 := hM2 r0 (by simp)
  have g1 := hM2 r1 (by simp)
  have g2 := hM2 r2 (by simp)
  have g3 := hM2 r3 (by simp)
  have g4 := hM2 r4 (by simp)
  have g5 := hM2 r5 (by simp)
  simp only [List.mem_cons, List.not_mem_nil, or_false] at hM1
  have hMx := max_six g0 g1 g2 g3 g4 g5 hM1
  have hM0 : 3 ≤ M ∧ M ≤ 6 := ⟨Int.le_trans b0.1 g0, six_bd hM1 b0.2 (le6 f1) (le36 f2) (le6 f3) (le6 f4) (le36 f5)⟩
  clear g0 g1 g2 g3 g4 g5
  obtain ⟨mm, rfl⟩ : ∃ mm : Nat, M = (mm : Int) := ⟨M.toNat, by omega⟩
  clear hM1 hM2 F9 N10
  k_steps
  unfold Stop
  with_unfolding_all refine' c_wit (most := mm) ?y1 ?k1 ?k2 ?k3 ?k4 ?k5 ?k6 ?k8 ?k9 ?_
  case k4 => exact N11
  case y1 => omega
  case k1 => k_asm
  case k2 => k_asm
  case k3 => k_asm
  case k5 => k_asm
  case k6 => exact rfl
  case k8 => exact dep_ok (by decide)
  case k9 => exact un_ok (by decide)
  intro D3 vs3 c3 led3 h10 tk10 hw3 hsub3 hlt3 F12 N12
  have w10 := Eq.mp (congrArg (WitIn rest us) (wit_same ho1.1 ho2.1 hMx (by omega) ho1.2 ho2.2)) w9
  clear w9
  have hun1 : callerA.units + 3 + 10 < cLine := un_ok (by decide)
  refine ne_wits N12 w10 hw3 (fun p hp => .tail _ (hsub3 p (.tail _ (.tail _ (.tail _ hp))))) (fun p hp => .tail _ hp) (News.isList N12 (.tail _ (hsub3 _ (.head _)))) (News.isList N12 (.head _)) hun1 ?_
  have N13 : News _ _ _ _ := fun p hp => N12 p (.tail _ (hsub3 p hp))
  have hb1 := fun k a b => (ho1.2 k a b).2
  have hb2 := fun k a b => (ho2.2 k a b).2
  clear N12 hsub3 hlt3 hw3 N11 F10 ho1 ho2
  k_steps
  refine Assign_ListComp_cell F12 rfl (by with_unfolding_all rfl) (by with_unfolding_all rfl) rfl (fun _ => rfl) (fun _ => rfl) (by decide) (fun _ _ => rfl) rfl rfl ?_
  k_steps
  rename_i hrp Fp Np _
  refine ⟨_, 1, 5, _, _, _, 4, _, fun i z => ∃ t, t ≠ 0 ∧ z = .float (Float64.ofInt (colF (1 + (i : Int)) (lead3 r0 r1 r2) - colF (1 + (i : Int)) (lead3 r3 r4 r5))) t, rfl, rfl, Fp, Np, hrp, by decide, by decide, by decide, ?_, ?_⟩
  · intro i t' Ii oIi K oK Cc oCc Dd hh tkk ys E' hi Fq Nq dK o1 o2 o3 o4
    k_steps
    unfold Stop
    refine ListComp_wit Fq (by with_unfolding_all rfl) (by decide) rfl (by decide) rfl rfl rfl (by decide) (by decide) (by decide) ?_
    k_steps
    refine WitSrc.intro (fun j ys => IntsAre ys (selD (1 + (i : Int)) ((witR (fun k => colF k (lead3 r0 r1 r2)) (fun k => colF k (lead3 r3 r4 r5)) (mm + 1)).take j))) rfl Fq Nq (.tail _ (.tail _ (.tail _ (.tail _ (.head _))))) (w10.mono (fun p hp => .tail _ (.tail _ (.tail _ (.tail _ (.tail _ (.tail _ (.tail _ hp)))))))) (WitIn.rsLen (by omega)) .nil ?_ ?_
    · intro j a b c t1 t2 t3 I2 oI2 C2 oC2 D2 m₂ h2 tk2 ys2 E2 hj hr hC2 e1 e2 e3 F2 N2 hA
      k_steps
      · exact ⟨_, _, rfl, by k_asm, by k_asm, by ((try dsimp only at hA ⊢); rw [selD_yes hr (by assumption)]; exact ints_snoc hA _ _)⟩
      · exact ⟨_, _, rfl, by k_asm, by k_asm, by ((try dsimp only at hA ⊢); rw [selD_no hr (by assumption)]; exact hA)⟩
    · intro ys2 D2 h2 tk2 hA2 F2 N2 l2
      have hsum := sel_sum (fun k => colF k (lead3 r0 r1 r2)) (fun k => colF k (lead3 r3 r4 r5)) (1 + (i : Int)) (mm + 1) (by omega) (by omega)
      (try dsimp only at hA2)
      (try dsimp only at hsum)
      rw [List.take_length] at hA2
      have hq1 := hb1 (1 + (i : Int)) (by omega) (by omega)
      have hq2 := hb2 (1 + (i : Int)) (by omega) (by omega)
      k_steps
      unfold Stop
      rw [hsum]
      have hfit : (colF (1 + (i : Int)) (lead3 r0 r1 r2) - colF (1 + (i : Int)) (lead3 r3 r4 r5)).natAbs < 2 ^ 1023 := Nat.lt_of_le_of_lt (show _ ≤ 40 by omega) (by decide +kernel)
      refine call_float_int_fits hfit ?_
      k_steps
      unfold Stop
      exact ⟨_, _, rfl, by k_asm, cb_drop (by k_asm) (by kcj_all), _, (nz_of (by assumption)), rfl⟩
  · intro ys D h tk hys1 hys2 Fq Nq lq
    obtain ⟨p0, p1, p2, p3, b0', b1', b2', b3', hfl, g0, g1, g2, g3, y0, y1, y2, y3⟩ := pts (F := fun i => colF (1 + (i : Int)) (lead3 r0 r1 r2) - colF (1 + (i : Int)) (lead3 r3 r4 r5)) hys1 hys2 (fun j hj => by
      have q1 := hb1 (1 + (j : Int)) (by omega) (by omega)
      have q2 := hb2 (1 + (j : Int)) (by omega) (by omega)
      (try dsimp only)
      omega)
    obtain ⟨a1, rfl⟩ : ∃ a1 : Nat, one = (a1 : Int) := ⟨one.toNat, by omega⟩
    obtain ⟨a2, rfl⟩ : ∃ a2 : Nat, two = (a2 : Int) := ⟨two.toNat, by omega⟩
    have ha1 : 1 ≤ a1 ∧ a1 ≤ 10 := by omega
    have ha2 : 1 ≤ a2 ∧ a2 ≤ 10 := by omega
    have HP := plain_ok g0 g1 g2 g3 ha1.1 ha1.2 ha2.1 ha2.2 y0 y1 y2 y3
    have HW := weigh_ok g0 g1 g2 g3 ha1.1 ha1.2 y0 y1 y2 y3
    have hlen4 : ys.length ≤ 100 := by omega
    have hpi := prod_int ha1.1 ha1.2 ha2.1 ha2.2
    clear hys1 hys2 hb1 hb2 w10 y0 y1 y2 y3 g0 g1 g2 g3
    have lq' : ∀ p ∈ rest, @LT.lt Nat _ p.1 D := fun p hp => lq p (by simp [hp])
    k_steps
    unfold Stop
    rw [fr_one]
    clear Fp Np
    (try k_sweep)
    with_unfolding_all refine' c_cut (bs := [b0', b1', b2', b3']) ?k1 ?k2 ?k3 ?k4 ?k5 ?k6 ?kl ?kf ?kn ?kH ?k8 ?k9 ?_
    case k4 => k_asm
    case kl => exact .head _
    case kf => exact hfl
    case kn => exact hlen4
    case kH => exact Dya.hue_one ha1.1 ha1.2
    case k1 => k_asm
    case k2 => k_asm
    case k3 => k_asm
    case k5 => k_asm
    case k6 => exact rfl
    case k8 => exact dep_ok (by decide)
    case k9 => exact un_ok (by decide)
    intro Dl Dr2 t1 vl vr c1 c2 h11 tk11 fl fr q1 q2 q3 F13 N14
    replace fl : Fls vl (firsts (Float64.ofFrac false a1 64) 4 [b0', b1', b2', b3']) := fl
    replace fr : Fls vr (lasts (Float64.ofFrac false a1 64) 4 [b0', b1', b2', b3']) := fr
    have n1 : vl.length ≤ 100 := by rw [fl.length, firsts_len]; decide
    have n2 : vr.length ≤ 100 := by rw [fr.length, lasts_len]; decide
    k_steps
    unfold Stop
    rw [fr_one]
    with_unfolding_all refine' c_cut (bs := firsts (Float64.ofFrac false a1 64) 4 [b0', b1', b2', b3']) ?k1 ?k2 ?k3 ?k4 ?k5 ?k6 ?kl ?kf ?kn ?kH ?k8 ?k9 ?_
    case k4 => k_asm
    case kl => exact .tail _ (.tail _ (.head _))
    case kf => exact fl
    case kn => exact n1
    case kH => exact Dya.hue_one ha2.1 ha2.2
    case k1 => k_asm
    case k2 => k_asm
    case k3 => k_asm
    case k5 => k_asm
    case k6 => exact rfl
    case k8 => exact dep_ok (by decide)
    case k9 => exact un_ok (by decide)
    intro Df Dm t2 vf vm c5 c6 h12 tk12 ff fm2 q4 q5 q6 F14 N15
    rw [firsts_len] at ff fm2
    have n3 : vf.length ≤ 100 := by rw [ff.length, firsts_len]; decide
    have n4 : vm.length ≤ 100 := by rw [fm2.length, lasts_len]; decide
    k_steps
    unfold Stop
    rw [fr_two]
    with_unfolding_all refine' c_cut (bs := [b0', b1', b2', b3']) ?k1 ?k2 ?k3 ?k4 ?k5 ?k6 ?kl ?kf ?kn ?kH ?k8 ?k9 ?_
    case k4 => k_asm
    case kl => exact .tail _ (.tail _ (.tail _ (.tail _ (.tail _ (.tail _ (.head _))))))
    case kf => exact hfl
    case kn => exact hlen4
    case kH => exact Dya.hue_two (prod_le ha1.1 ha1.2 ha2.1 ha2.2).1 (prod_le ha1.1 ha1.2 ha2.1 ha2.2).2
    case k1 => k_asm
    case k2 => k_asm
    case k3 => k_asm
    case k5 => k_asm
    case k6 => exact rfl
    case k8 => exact dep_ok (by decide)
    case k9 => exact un_ok (by decide)
    intro Ds Do t3 vs4 vo c7 c8 h13 tk13 fs fo q7 q8 q9 F15 N16
    replace fs : Fls vs4 (firsts (Float64.ofFrac false (6 * (a1 * a2)) 4096) 4 [b0', b1', b2', b3']) := fs
    replace fo : Fls vo (lasts (Float64.ofFrac false (6 * (a1 * a2)) 4096) 4 [b0', b1', b2', b3']) := fo
    have n5 : vs4.length ≤ 100 := by rw [fs.length, firsts_len]; decide
    have n6 : vo.length ≤ 100 := by rw [fo.length, lasts_len]; decide
    have w1 : @LT.lt Nat _ Dt D := lq _ (.head _)
    have w2 : @LT.lt Nat _ D Dl := q3 _ (.head _)
    have w3 : @LT.lt Nat _ t1 Df := q6 _ (.head _)
    have w4 : @LT.lt Nat _ t2 Ds := q9 _ (.head _)
    k_steps
    unfold Stop
    refine ne_fls ff fs (by rw [firsts_len, firsts_len]) (fun j hj => HP.eqs j (by rwa [firsts_len] at hj)) (News.isList (by k_asm) (.tail _ (.tail _ (.tail _ (.tail _ (.tail _ (.head _))))))) (News.isList (by k_asm) (.tail _ (.tail _ (.head _)))) hun1 (booked_at (booked (w := w0) (by assumption)) (by k_asm)) ?_
    k_steps
    unfold Stop
    have N17 : News _ _ _ ((38, tabObj #[]) :: (Do, W.listOf vo.toArray c8) :: (Ds, W.listOf vs4.toArray c7) :: (Dm, W.listOf vm.toArray c6) :: (Df, W.listOf vf.toArray c5) :: (Dr2, W.listOf vr.toArray c2) :: (Dl, W.listOf vl.toArray c1) :: (D, LCg.lst ys) :: rest) := cb_drop (by assumption) (by kcj_all)
    have e0 : @LT.lt Nat _ 38 D := Nat.lt_trans hDt2 w1
    have e1 : @LT.lt Nat _ 38 Dl := Nat.lt_trans e0 w2
    have e2 : @LT.lt Nat _ 38 Dr2 := Nat.lt_trans e1 q1
    have e3 : @LT.lt Nat _ 38 Df := Nat.lt_trans (Nat.lt_trans e2 q2) w3
    have e4 : @LT.lt Nat _ 38 Dm := Nat.lt_trans e3 q4
    have e5 : @LT.lt Nat _ 38 Ds := Nat.lt_trans (Nat.lt_trans e4 q5) w4
    have e6 : @LT.lt Nat _ 38 Do := Nat.lt_trans e5 q7
    have h38 : ∀ q ∈ (Do, W.listOf vo.toArray c8) :: (Ds, W.listOf vs4.toArray c7) :: (Dm, W.listOf vm.toArray c6) :: (Df, W.listOf vf.toArray c5) :: (Dr2, W.listOf vr.toArray c2) :: (Dl, W.listOf vl.toArray c1) :: (D, LCg.lst ys) :: rest, @Ne Nat q.1 38 := by
      simp only [List.forall_mem_cons]
      exact ⟨Nat.ne_of_gt e6, Nat.ne_of_gt e5, Nat.ne_of_gt e4, Nat.ne_of_gt e3, Nat.ne_of_gt e2, Nat.ne_of_gt e1, Nat.ne_of_gt e0, r38⟩
    clear e0 e1 e2 e3 e4 e5 e6
    have ht1 := HP.t1
    have ht2 := HP.t2
    have ht3 := HP.t3
    with_unfolding_all refine' c_weighed (bp := [b0', b1', b2', b3']) ?h0 ?h1 ?hP HW ?k1 ?k2 ?k3 ?k4 ?k5 ?k6 ?kC ?k38 ?kps ?mp ?ml ?mr hfl fl fr ?zp ?zl ?zr ?k8 ?k9 ?_
    case k4 => exact N17
    case mp => exact .tail _ (.tail _ (.tail _ (.tail _ (.tail _ (.tail _ (.head _))))))
    case ml => exact .tail _ (.tail _ (.tail _ (.tail _ (.tail _ (.head _)))))
    case mr => exact .tail _ (.tail _ (.tail _ (.tail _ (.head _))))
    case h0 => omega
    case h1 => omega
    case hP => exact pow_ok ha1.1 ha1.2
    case k38 => exact h38
    case kps => exact .inl rfl
    case kC => assumption
    case zp => rfl
    case zl => exact firsts_len _ _ _
    case zr => exact lasts_len _ _ _
    case k1 => k_asm
    case k2 => k_asm
    case k3 => k_asm
    case k5 => k_asm
    case k6 => exact rfl
    case k8 => exact dep_ok (by decide)
    case k9 => exact un_ok (by decide)
    intro ps' h14 tk14 dr14 F16 N18
    clear N17
    (try k_sweep)
    k_steps
end
end PartLW
end Mine
theorem PySem.Challenge.cw_sh0036_01_holds : PySem.Challenge.rw_sh0036_01.Holds := by
  exact Mine.law_holds
