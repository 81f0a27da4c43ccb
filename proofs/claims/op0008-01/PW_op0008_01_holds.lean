import PyProof.Rows.All
import Wide.All
import OpenK.AllK
import Wide.FinOn
import PySem.Challenge.RW_op0008_01
set_option Elab.async false
set_option linter.all false
set_option compiler.extract_closed false
section
open PySem PySem.W PyProof.Rows
set_option maxRecDepth 100000
set_option maxHeartbeats 8000000
namespace Mine
local macro_rules | `(tactic| o_head ($f:ident $k:term $a:term $e:term)) => `(tactic| o_head (kmHook $k $a $e [63, 70]))
open_top hd for PySem.Challenge.rw_op0008_01
end Mine
end
section
open PySem PySem.W PyProof.Rows
set_option maxRecDepth 100000
set_option maxHeartbeats 8000000
namespace Mine
def p0 : Program := { PySem.Challenge.pw_op0008_01 with main := { PySem.Challenge.pw_op0008_01.main with body := [] } }
def loose0 : List Str := [Str.ofString "_wall", Str.ofString "EMPTYSTRING", Str.ofString "_Accumulator", Str.ofString "bytes_types", Str.ofString "_bytes_from_decode_data", Str.ofString "_get_sep", Str.ofString "_law_piece", Str.ofString "_law_kept", Str.ofString "_law_walk", Str.ofString "_law_hand_over", Str.ofString "law"]
theorem recs0 : recsOf p0 = [] := by rfl
theorem lits0 : litsOf p0 = [] := by rfl
theorem clss0 : clssOf p0 loose0 = [] := by rfl
theorem owns0 : ownsOf p0 = [] := by rfl

/-- one step of the reader from behind -/
def keptStep (st : List Str × Nat) (p : Str) : List Str × Nat :=
  if p = Str.ofString ".." then (st.1, st.2 + 1)
  else if p = Str.ofString "." ∨ p = Str.ofString "" then st
  else if 0 < st.2 then (st.1, st.2 - 1) else (p :: st.1, st.2)
def keptAll (xs : List Str) : List Str × Nat := xs.reverse.foldl keptStep ([], 0)
end Mine
end
section
open PySem PySem.W PyProof.Rows
set_option maxRecDepth 100000
set_option maxHeartbeats 8000000
namespace Mine
theorem fr_eq {h₀ h : Heap} {L : Addr} {m m' : Str → Option Value} (F : Fr h₀ L h m) (e : ∀ y, m y = m' y) : Fr h₀ L h m' := (funext e : m = m') ▸ F
theorem strs_get {vs : List Value} {xs : List Str} (h : StrsAre vs xs) : ∀ {i : Nat} {v : Value}, vs[i]? = some v → ∃ p t, v = .str p t ∧ xs[i]? = some p := by
  induction h with
  | nil => intro i v e; simp at e
  | cons y t _ ih =>
    intro i v e
    cases i with
    | zero => simp at e; exact ⟨y, t, e.symm, by simp⟩
    | succ i => simp at e; obtain ⟨p, t', e1, e2⟩ := ih e; exact ⟨p, t', e1, by simpa using e2⟩
theorem strs_app {vs ws : List Value} {xs ys : List Str} (h : StrsAre vs xs) (k : StrsAre ws ys) : StrsAre (vs ++ ws) (xs ++ ys) := by
  induction h with
  | nil => exact k
  | cons y t _ ih => exact .cons y t ih
theorem strs_rev {vs : List Value} {xs : List Str} (h : StrsAre vs xs) : StrsAre vs.reverse xs.reverse := by
  induction h with
  | nil => exact .nil
  | cons y t _ ih => rw [List.reverse_cons, List.reverse_cons]; exact strs_app ih (.cons y t .nil)
theorem strs_len {vs : List Value} {xs : List Str} (h : StrsAre vs xs) : vs.length = xs.length := by
  induction h with
  | nil => rfl
  | cons y t _ ih => simp [ih]
theorem keptStep_len (st : List Str × Nat) (p : Str) : (keptStep st p).1.length ≤ st.1.length + 1 := by
  unfold keptStep
  (repeat' split) <;> simp
theorem keptFold_len (xs : List Str) (st : List Str × Nat) : (xs.foldl keptStep st).1.length ≤ st.1.length + xs.length := by
  induction xs generalizing st with
  | nil => simp
  | cons x xs ih =>
    have := ih (keptStep st x)
    have := keptStep_len st x
    simp only [List.foldl_cons, List.length_cons]; omega
section
variable {prog : Program} {w : World} {A : Around} {E : Value → Shared → Prop} {s : Shared} {env : Env} {h₀ : Heap} {x : Str} {body : List Stmt} {Q : Flow → Shared → Prop}
/-- the reader's loop: what holds between its turns -/
def KeptJ (x : Str) (xs : List Str) (l a1 : Addr) (ol : Obj) (news : List (Addr × Obj)) (m₀ : Str → Option Value) (i : Nat) (m : Str → Option Value) (nx : List (Addr × Obj)) : Prop :=
  ∃ (us : List Value) (nu : Nat) (td : Tok) (u : Option Value), StrsAre us ((xs.take i).foldl keptStep ([], 0)).1 ∧
    m = (fun y => if y = x then u else if y = Str.ofString "debts" then some (.int ((((xs.take i).foldl keptStep ([], 0)).2 : Nat) : Int) td) else m₀ y) ∧ nx = (l, ol) :: (a1, listOf us.toArray nu) :: news
theorem kept_loop {l a1 : Addr} {vs : List Value} {xs : List Str} {nn : Nat} {m₀ : Str → Option Value} {news : List (Addr × Obj)} {t0 : Tok}
    (F : Fr h₀ env.locals s.heap m₀) (N : News h₀ env.locals s.heap ((l, listOf vs.toArray nn) :: (a1, listOf #[] 0) :: news)) (hh : A.handled = none) (hvs : StrsAre vs xs) 
    (hne : l ≠ a1) (hal : ∀ p ∈ news, p.1 ≠ a1) (_hx : x ≠ Str.ofString "debts") (hdb : m₀ (Str.ofString "debts") = some (.int 0 t0))
    (turn : ∀ i p t us nu (d : Nat) td h tk own, xs[i]? = some p → StrsAre us ((xs.take i).foldl keptStep ([], 0)).1 → d = ((xs.take i).foldl keptStep ([], 0)).2 → us.length ≤ xs.length → l ≠ a1 → (∀ p ∈ news ++ own, p.1 ≠ a1) →
      OwnOff own (((l, listOf vs.toArray nn) :: (a1, listOf us.toArray nu) :: news).map (·.1)) →
      Fr h₀ env.locals h (fun y => if y = x then some (.str p t) else if y = Str.ofString "debts" then some (.int (d : Int) td) else m₀ y) →
      News h₀ env.locals h ((l, listOf vs.toArray nn) :: (a1, listOf us.toArray nu) :: (news ++ own)) →
      wpAny (model prog w) A (execs body env) (InvPostG h₀ env.locals (KeptJ x xs l a1 (listOf vs.toArray nn) news m₀ (i + 1)) own { s with heap := h, toks := tk } Q) E { s with heap := h, toks := tk })
    (done : ∀ us nu (d : Nat) td u h tk, StrsAre us (xs.foldl keptStep ([], 0)).1 →
      Fr h₀ env.locals h (fun y => if y = x then u else if y = Str.ofString "debts" then some (.int (d : Int) td) else m₀ y) → News h₀ env.locals h ((l, listOf vs.toArray nn) :: (a1, listOf us.toArray nu) :: news) → Q .next { s with heap := h, toks := tk }) :
    wpAny (model prog w) A (pyIter (.ref l)) (fun it s₂ => LoopAtV prog w A h₀ env x body Q E it s₂) E s := by
  refine kdl_iter (news := (l, listOf vs.toArray nn) :: (a1, listOf #[] 0) :: news) (KeptJ x xs l a1 (listOf vs.toArray nn) news m₀) hh (.head _) F N ⟨[], 0, t0, m₀ x, .nil, ?_, rfl⟩ ?_ ?_
  · funext y
    by_cases h1 : y = x
    · simp [h1]
    · by_cases h2 : y = Str.ofString "debts"
      · rw [if_neg h1, if_pos h2, h2, hdb]; rfl
      · rw [if_neg h1, if_neg h2]
  · rintro i v m₁ news₁ h tk own hv hoff hl₁ ⟨us, nu, td, u, hus, rfl, rfl⟩ F₁ N₁
    obtain ⟨p, t, rfl, hp⟩ := strs_get hvs hv
    have hi : i < xs.length := (List.getElem?_eq_some_iff.mp hp).1
    refine wpAny_mono (turn i p t us nu _ td h tk own hp hus rfl ?_ hne ?_ hoff (fr_eq F₁ fun y => ?_) N₁) (fun f s₂ q => ?_) fun _ _ e => e
    · rw [strs_len hus]
      have := keptFold_len (xs.take i) ([], 0)
      simp only [List.length_nil, List.length_take] at this
      omega
    · intro p hp
      rcases List.mem_append.mp hp with hp | hp
      · exact hal p hp
      · exact hoff p hp a1 (by simp)
    · by_cases h1 : y = x <;> simp [h1]
    · have up : InvEndG h₀ env.locals (KeptJ x xs l a1 (listOf vs.toArray nn) news m₀ (i + 1)) own { s with heap := h, toks := tk } s₂ → InvEndG h₀ env.locals (fun m' nx => (l, listOf vs.toArray nn) ∈ nx ∧ KeptJ x xs l a1 (listOf vs.toArray nn) news m₀ (i + 1) m' nx) own { s with heap := h, toks := tk } s₂ := by
        rintro ⟨h', tk', m', news', nx', e', F', N', hn', ho', ha, hS⟩
        refine ⟨h', tk', m', news', nx', e', F', N', hn', ho', ha, ?_, hS⟩
        obtain ⟨_, _, _, _, _, _, rfl⟩ := hS
        exact .head _
      cases f with
      | ret v => exact q
      | brk => exact q
      | next => exact up q
      | cont => exact up q
  · rintro m₁ news₁ h tk ⟨us, nu, td, u, hus, rfl, rfl⟩ F₁ N₁
    rw [strs_len hvs, List.take_length] at hus
    exact done us nu _ td u h tk hus F₁ N₁
theorem kept_end {l a1 : Addr} {ol : Obj} {xs : List Str} {i : Nat} {p : Str} {m₀ m' : Str → Option Value} {news own : List (Addr × Obj)} {us : List Value} {nu : Nat} {dv : Int} {td : Tok} {L : Addr} {h h' : Heap} {tk tk' : Nat} {u : Option Value}
    (F : Fr h₀ L h' m') (N : News h₀ L h' ((l, ol) :: (a1, listOf us.toArray nu) :: (news ++ own)))
    (hp : xs[i]? = some p) (hoff : OwnOff own (l :: a1 :: news.map (·.1))) (hus : StrsAre us (keptStep ((xs.take i).foldl keptStep ([], 0)) p).1) (hd : dv = (((keptStep ((xs.take i).foldl keptStep ([], 0)) p).2 : Nat) : Int))
    (hm : m' = fun y => if y = x then u else if y = Str.ofString "debts" then some (.int dv td) else m₀ y) :
    InvEndG h₀ L (KeptJ x xs l a1 ol news m₀ (i + 1)) own { s with heap := h, toks := tk } { s with heap := h', toks := tk' } := by
  have hs : (xs.take (i + 1)).foldl keptStep ([], 0) = keptStep ((xs.take i).foldl keptStep ([], 0)) p := by
    rw [List.take_add_one, hp]; simp [List.foldl_append]
  refine ⟨h', tk', m', (l, ol) :: (a1, listOf us.toArray nu) :: (news ++ own), (l, ol) :: (a1, listOf us.toArray nu) :: news, rfl, F, N, ?_, ?_, hoff, us, nu, td, u, by rw [hs]; exact hus, by rw [hs, hm, hd], rfl⟩
  · intro q hq; simp only [List.mem_cons, List.mem_append] at hq ⊢; rcases hq with h1 | h1 | h1 <;> simp [h1]
  · intro q hq; simp [hq]
end
theorem allLt_ne {d : Addr} {l : List (Addr × Obj)} (h : AllLt d l) : ∀ p ∈ l, p.1 ≠ d := by
  induction l with
  | nil => intro p hp; cases hp
  | cons q r ih =>
    intro p hp
    rcases List.mem_cons.mp hp with rfl | hp
    · exact Nat.ne_of_lt h.1
    · exact ih h.2 p hp

def Stop9 (P : Prop) : Prop := P
theorem Stop9.mk' {P : Prop} (h : Stop9 P) : P := h
end Mine
namespace Mine
open PySem PySem.W PyProof.Rows
theorem my_size {vs : List Value} {xs : List Str} (h : StrsAre vs xs) (k : xs.length ≤ 1000) : vs.toArray.size ≤ sizeLine := by
  rw [List.size_toArray, strs_len h, sizeLine_eq]; omega
end Mine
namespace Mine
open PySem PySem.W PyProof.Rows
theorem lt_ne {d : Addr} {l : List (Addr × Obj)} (h : ∀ p ∈ l, p.1 < d) : ∀ p ∈ l, p.1 ≠ d := fun p hp => Nat.ne_of_lt (h p hp)
end Mine
namespace Mine
open PySem PySem.W PyProof.Rows
section
variable {st : List Str × Nat} {p : Str} {d : Nat}
theorem kstep_up (h : (p == Str.ofString "..") = true) : keptStep st p = (st.1, st.2 + 1) := by
  unfold keptStep; rw [if_pos (by simpa using h)]
theorem kstep_debt (h1 : (p == Str.ofString "..") = false) (h2 : (p != Str.ofString ".") = true) (h3 : (p != Str.ofString "") = true) (hd : d = st.2) (h4 : 0 < (d : Int)) : keptStep st p = (st.1, st.2 - 1) := by
  unfold keptStep
  rw [if_neg (by simpa using h1), if_neg (by simp at h2 h3; simp [h2, h3]), if_pos (by omega)]
theorem kstep_name (h1 : (p == Str.ofString "..") = false) (h2 : (p != Str.ofString ".") = true) (h3 : (p != Str.ofString "") = true) (hd : d = st.2) (h4 : ¬ 0 < (d : Int)) : keptStep st p = (p :: st.1, st.2) := by
  unfold keptStep
  rw [if_neg (by simpa using h1), if_neg (by simp at h2 h3; simp [h2, h3]), if_neg (by omega)]
theorem kstep_dot (h1 : (p == Str.ofString "..") = false) (h2 : (p != Str.ofString ".") = false) : keptStep st p = st := by
  unfold keptStep
  rw [if_neg (by simpa using h1), if_pos (by simp at h2; simp [h2])]
theorem kstep_nil (h1 : (p == Str.ofString "..") = false) (h2 : (p != Str.ofString "") = false) : keptStep st p = st := by
  unfold keptStep
  rw [if_neg (by simpa using h1), if_pos (by simp at h2; simp [h2])]
end
theorem kl_ins_zero (l : List Value) (y : Value) : kl_ins l.toArray.toList 0 y = y :: l := by
  unfold kl_ins; simp
theorem kept_m1 {x z : Str} {a b c : Option Value} {m₀ : Str → Option Value} (hx : x ≠ z) : (fun y => if y = z then a else if y = x then b else if y = z then c else m₀ y) = fun y => if y = x then b else if y = z then a else m₀ y := by
  funext y
  by_cases h1 : y = x
  · have : y ≠ z := fun e => hx (h1.symm.trans e)
    simp [h1, hx]
  · by_cases h2 : y = z
    · rw [if_pos h2, if_neg h1, if_pos h2]
    · rw [if_neg h2, if_neg h1, if_neg h2, if_neg h1, if_neg h2]
end Mine
end
section
open PySem PySem.W PyProof.Rows
namespace Mine
theorem room1 {a k b c : Nat} (h : a + k < c) (e : b ≤ k) : a + b < c := Nat.lt_of_le_of_lt (Nat.add_le_add_left e a) h
theorem room2 {a k b d c : Nat} (h : a + k < c) (e : b + d ≤ k) : a + b + d < c := by rw [Nat.add_assoc]; exact room1 h e
theorem room3 {a k b d f c : Nat} (h : a + k < c) (e : b + (d + f) ≤ k) : a + b + d + f < c := by rw [Nat.add_assoc (a + b)]; exact room2 h e
end Mine
end
section
namespace Mine
theorem ex2 {α β : Sort _} {p : α → β → Prop} {C : Prop} (h : ∃ a b, p a b) (k : ∀ a b, p a b → C) : C := let ⟨a, b, q⟩ := h; k a b q
theorem ex3 {α β γ : Sort _} {p : α → β → γ → Prop} {C : Prop} (h : ∃ a b c, p a b c) (k : ∀ a b c, p a b c → C) : C := let ⟨a, b, c, q⟩ := h; k a b c q
theorem ex4 {α β γ δ : Sort _} {p : α → β → γ → δ → Prop} {C : Prop} (h : ∃ a b c d, p a b c d) (k : ∀ a b c d, p a b c d → C) : C := let ⟨a, b, c, d, q⟩ := h; k a b c d q
theorem ex5 {α β γ δ ε : Sort _} {p : α → β → γ → δ → ε → Prop} {C : Prop} (h : ∃ a b c d e, p a b c d e) (k : ∀ a b c d e, p a b c d e → C) : C := let ⟨a, b, c, d, e, q⟩ := h; k a b c d e q
theorem ex6 {α β γ δ ε ζ : Sort _} {p : α → β → γ → δ → ε → ζ → Prop} {C : Prop} (h : ∃ a b c d e f, p a b c d e f) (k : ∀ a b c d e f, p a b c d e f → C) : C := let ⟨a, b, c, d, e, f, q⟩ := h; k a b c d e f q
theorem an3 {a b c C : Prop} (h : a ∧ b ∧ c) (k : a → b → c → C) : C := let ⟨a, b, c⟩ := h; k a b c
theorem an4 {a b c d C : Prop} (h : a ∧ b ∧ c ∧ d) (k : a → b → c → d → C) : C := let ⟨a, b, c, d⟩ := h; k a b c d
theorem an5 {a b c d e C : Prop} (h : a ∧ b ∧ c ∧ d ∧ e) (k : a → b → c → d → e → C) : C := let ⟨a, b, c, d, e⟩ := h; k a b c d e
theorem an6 {a b c d e f C : Prop} (h : a ∧ b ∧ c ∧ d ∧ e ∧ f) (k : a → b → c → d → e → f → C) : C := let ⟨a, b, c, d, e, f⟩ := h; k a b c d e f
theorem an7 {a b c d e f g C : Prop} (h : a ∧ b ∧ c ∧ d ∧ e ∧ f ∧ g) (k : a → b → c → d → e → f → g → C) : C := let ⟨a, b, c, d, e, f, g⟩ := h; k a b c d e f g
theorem an8 {a b c d e f g i C : Prop} (h : a ∧ b ∧ c ∧ d ∧ e ∧ f ∧ g ∧ i) (k : a → b → c → d → e → f → g → i → C) : C := let ⟨a, b, c, d, e, f, g, i⟩ := h; k a b c d e f g i
theorem an9 {a b c d e f g i j C : Prop} (h : a ∧ b ∧ c ∧ d ∧ e ∧ f ∧ g ∧ i ∧ j) (k : a → b → c → d → e → f → g → i → j → C) : C := let ⟨a, b, c, d, e, f, g, i, j⟩ := h; k a b c d e f g i j
theorem an10 {a b c d e f g i j l C : Prop} (h : a ∧ b ∧ c ∧ d ∧ e ∧ f ∧ g ∧ i ∧ j ∧ l) (k : a → b → c → d → e → f → g → i → j → l → C) : C := let ⟨a, b, c, d, e, f, g, i, j, l⟩ := h; k a b c d e f g i j l
end Mine
end
section
open PySem PySem.W PyProof.Rows
set_option maxRecDepth 100000
set_option maxHeartbeats 8000000
namespace Mine
theorem ghost_seer {h₁ : Heap} {tabs : List (Addr × Addr)} (hT : TabsAt tabs h₁) (x : h₁.NoSeer) : (ghostOf h₁ tabs).NoSeer where
  statics := let ⟨mc, a, b⟩ := x.statics; ⟨mc, ghost_ns hT a, b⟩
  mods := let ⟨mc, a, b⟩ := x.mods; ⟨mc, ghost_ns hT a, b⟩
  imp := let ⟨mc, a, b⟩ := x.imp; ⟨mc, ghost_ns hT a, b⟩
  main := let ⟨mg, bm, ob, a, b, c, d, e⟩ := x.main; ⟨mg, bm, ob, ghost_ns hT a, b, ghost_get hT c (fun q => by rw [q] at d; cases d), d, e⟩
theorem mem_of_all {xs ys : List Str} (h : xs.all (fun x => ys.contains x) = true) {x : Str} (hx : x ∉ ys) : x ∉ xs := fun hm => hx (by
  have := List.all_eq_true.mp h x hm
  simpa using this)
theorem ghost_p0 {p : Program} {loose : List Str} {mean : ExcName → Option Value} {mg mb : Str → Option Value} {h₁ : Heap} {tabs : List (Addr × Addr)} (hT : TabsAt tabs h₁) (T : Top p loose mean mg mb h₁) (hi : importsNone p = true)
    (e1 : loose.all (fun x => loose0.contains x) = true) (e2 : ((recsOf p).map (·.name)).all (fun x => loose0.contains x) = true) (e3 : ((litsOf p).map (·.1)).all (fun x => loose0.contains x) = true) (e4 : ((clssOf p loose).map (·.name)).all (fun x => loose0.contains x) = true) :
    Top p0 loose0 mean mg mb (ghostOf h₁ tabs) where
  g := ghost_ns hT T.g
  b := ghost_ns hT T.b
  nolimit := let ⟨mc, a, r⟩ := T.nolimit; ⟨mc, ghost_ns hT a, r⟩
  nodigits := let ⟨mc, a, r⟩ := T.nodigits; ⟨mc, ghost_ns hT a, r⟩
  fn := fun d hd => by rw [recs0] at hd; cases hd
  own := fun o ho => by rw [owns0] at ho; cases ho
  const := fun x d e => by cases (show (none : Option PyData) = some d from e)
  free := fun x h1 h2 _ _ _ => T.free x h1 (mem_of_all e1 h2) (mem_of_all e2 h2) (mem_of_all e3 h2) (mem_of_all e4 h2)
  builtins := T.builtins
  tab := fun d hd => by rw [recs0] at hd; cases hd
  bmain := let ⟨bm, ob, a1, a2, a3, a4, r⟩ := T.bmain; ⟨bm, ob, a1, a2, ghost_get hT a3 (fun q => by rw [q] at a4; cases a4), a4, r⟩
  seer := fun _ => ghost_seer hT (T.seer hi)
/-- GoodW with generators that only rest -/
def GoodB (c : ClaimW) (cl : Str → Option Addr) (args : List WData) (s₁ : Shared) (res : Result) (s' : Shared) : Prop :=
  (∃ v d as, res = .ok (.ret v) ∧ (∀ cls, c.raises args cls = false) ∧ ReadsW c.records cl s'.heap v d as ∧ c.post args d args = true ∧
      (c.unshared = true → as.Nodup ∧ ∀ a ∈ as, s₁.heap.get? a = none)) ∧
  (∀ b o, s₁.heap.get? b = some o → s'.heap.get? b = some o) ∧ s'.os = s₁.os ∧ AllBare s'.gens
theorem my_post {M : Model} {A : Around} {cd : Code} {s s₁ : Shared} {cw : ClaimW} {cl : Str → Option Addr} {mean : ExcName → Option Value} {args : List WData} {tabs : List (Addr × Addr)} (hT : TabsAt tabs s₁.heap) 
    (h : codeAny M A cd (fun r s' => GoodB cw cl args { s₁ with heap := ghostOf s₁.heap tabs } r s' ∧ GrownAll tabs s'.heap) s) : codeAny M A cd (GoodWG cw cl mean args s₁) s :=
  codeAny_mono h fun r s' ⟨⟨hc, hk, hos, hg⟩, hgr⟩ => by
    have keep : ∀ b o, b ∉ tabs.map (·.2) → s₁.heap.get? b = some o → s'.heap.get? b = some o := fun b o hb e => hk b o (ghost_ne e hb)
    have grown : ∀ b o, b ∈ tabs.map (·.2) → s₁.heap.get? b = some o → isCodeTable s₁.heap b ∧ o = tabObj #[] ∧ ∃ ps, s'.heap.get? b = some (tabObj ps) := fun b o hb e => by
      obtain ⟨q, hq, rfl⟩ := List.mem_map.mp hb
      have e2 := (hT q hq).2
      rw [e] at e2
      exact ⟨((hT q hq).1.tab (hT q hq).2).isCodeTable, Option.some.inj e2, hgr.get q hq⟩
    refine ⟨?_, ⟨fun b o e => ?_, fun b o e => ?_⟩, hos, hg⟩
    · obtain ⟨v, d, as, r1, r2, r3, r4, r5⟩ := hc
      refine .inl ⟨v, d, as, r1, r2, r3, r4, fun q => ⟨(r5 q).1, fun a ha => ?_⟩⟩
      cases q1 : s₁.heap.get? a with
      | none => rfl
      | some o =>
        by_cases hb : a ∈ tabs.map (·.2)
        · obtain ⟨_, _, ps, hP⟩ := grown a o hb q1
          exact absurd ha (readsW_apart hP rfl r3)
        · have e3 := (r5 q).2 a ha
          rw [show (ghostOf s₁.heap tabs).get? a = some o from ghost_ne q1 hb] at e3
          cases e3
    · by_cases hb : b ∈ tabs.map (·.2)
      · obtain ⟨ht, rfl, ps, hP⟩ := grown b o hb e
        exact .inr (.inl ⟨ht, rfl, #[], ps, rfl, by rw [Array.empty_append]; exact hP⟩)
      · exact .inl (keep b o hb e)
    · by_cases hb : b ∈ tabs.map (·.2)
      · obtain ⟨_, _, ps, hP⟩ := grown b o hb e
        exact ⟨_, hP⟩
      · exact ⟨o, keep b o hb e⟩
end Mine
end
section
open PySem PySem.W PyProof.Rows PySem.Calls
set_option maxRecDepth 100000
set_option maxHeartbeats 4000000
namespace Mine
abbrev accObj (dx : Addr) (its : Array Value) (n : Nat) : Obj := { cls := .ref 101, dict := some dx, data := .seq its n }

theorem ln_kind : builtinKind "list.__new__" = some .builtinFn := by decide +kernel
theorem ln_split : splitId "list.__new__" = some ("list", "__new__") := by decide +kernel

structure MakesL (M : Model) (h : Heap) (C : Addr) : Prop where
  obj : ∃ oc od cd sl, h.get? C = some ⟨oc, od, .cls cd, sl⟩ ∧ cd.abstract = false ∧ cd.hasDel = false ∧ cd.mro.isEmpty = false
  made : Looks M h (Bind.madeBy (.ref C)) (some "list.__new__")
  base : Looks M h (Bind.staticBase (.ref C)) (.ref C)
  self : Looks M h (isSubtype (.ref C) (.ref C)) true
  top : Looks M h (isSubtype (.ref C) (.type "list")) true
  call : Looks M h (specialOf (.ref C) "__call__") (some (.builtin "type.__call__"))
  typ : Looks M h (isInstance (.ref C) (.type "type")) true
def makesL (K : Frag) (C : Addr) : Bool := match K.lookup C with
  | some ⟨_, _, .cls cd, sl⟩ => !cd.abstract && !cd.hasDel && (sl.toList[4]?).join == some (.builtin "list.__new__") && !cd.mro.isEmpty && cd.mro.contains (.ref C) && cd.mro.contains (.type "list") &&
      specialIn K (.ref C) "__call__" == some (some (.builtin "type.__call__")) && instIn K (.ref C) (.type "type") == some true
  | _ => false
theorem makesL_of {K : Frag} {M : Model} {h : Heap} (X : K.In h) {C : Addr} (e : makesL K C = true) : MakesL M h C := by
  unfold makesL at e
  split at e
  · rename_i oc od cd sl ho
    simp only [Bool.and_eq_true, Bool.not_eq_true', beq_iff_eq] at e
    obtain ⟨⟨⟨⟨⟨⟨⟨e1, e2⟩, e3⟩, e4⟩, e5⟩, e6⟩, e7⟩, e8⟩ := e
    have hc : clsIn K C = some cd := by unfold clsIn; rw [ho]
    have hm : Looks M h (mroOf (.ref C)) cd.mro := (looks_clsIn X hc).andThen .now
    obtain ⟨c, l, hl⟩ : ∃ c l, cd.mro = c :: l := by cases q : cd.mro with | nil => rw [q] at e4; cases e4 | cons c l => exact ⟨c, l, rfl⟩
    have made : Looks M h (Bind.madeBy (.ref C)) (some "list.__new__") := by
      intro A Q E s k q
      unfold Bind.madeBy
      refine wpAny_bind (hm A _ E s k ?_)
      rw [hl, List.forIn_cons]
      refine wpAny_bind (wpAny_bind (wpAny_bind (wpAny_bind (wpAny_loadPart (k _ _ (X _ _ ho)) (wpAny_pure ?_)))))
      dsimp only
      rw [← Array.getElem?_toList, e3]
      exact wpAny_pure (wpAny_pure (wpAny_pure q))
    refine ⟨⟨oc, od, cd, sl, X _ _ ho, e1, e2, e4⟩, made, ?_, looks_mroIn X ?_, looks_mroIn X ?_, looks_specialIn X e7, looks_instIn X e8⟩
    · intro A Q E s k q
      unfold Bind.staticBase
      refine wpAny_bind (hm A _ E s k ?_)
      rw [hl, List.forIn_cons]
      exact wpAny_bind (wpAny_bind (wpAny_bind (made A _ E s k (wpAny_pure (wpAny_pure (wpAny_pure q))))))
    · unfold mroIn; rw [hc, Option.bind_some, if_neg (by rw [e4]; decide), e5]
    · unfold mroIn; rw [hc, Option.bind_some, if_neg (by rw [e4]; decide), e6]
  · cases e

section
variable {prog : Program} {w : World} {A : Around} {K : Frag} {C : Addr} {R : Result → Shared → Prop} {h : Heap} {g : Array GenState} {d : Drawn} {t : Nat} {os : OsState}
theorem new_L (Y : MakesL (model prog w) h C) 
    (hq : R (.ok (.ret (.ref (h.objs.size + 1)))) ⟨(h.push emptyDict).push { cls := .ref C, dict := some h.objs.size, data := .seq #[] }, g, d, t, os⟩) :
    codeAny (model prog w) A (.call (.builtin "list.__new__") ⟨[.ref C], []⟩) R ⟨h, g, d, t, os⟩ := by
  obtain ⟨⟨oc, od, cd, sl, hC, e1, e2, e4⟩, made, base, self, top, call, typ⟩ := Y
  refine codeAny_call_builtin_code (Code.quiet_builtin _ (by decide +kernel)) ?_
  have hsig : ∃ sig, Manifest.signature? "list.__new__" = some sig ∧ Bind.checkArgs "list.__new__" sig ⟨[.ref C], []⟩ = pure () := by
    refine ⟨_, rfl, ?_⟩
    kernel_rfl
  obtain ⟨sig, hs1, hs2⟩ := hsig
  simp only [checkBuiltinCall, ln_kind, ln_split, hs1]
  rw [hs2]
  repeat (first | simp only [bne_self_eq_false, Bool.false_eq_true, if_false] | lk)
  refine codeAny_builtin_stack PySem.F.entry_list_new rfl fun p st => ?_
  rw [Around.under_plainId PySem.F.plain_list_new _]
  have hown := owner_list_new
  simp only [hown]
  repeat (first | simp only [Bool.false_eq_true, if_false, Bool.not_true] | lk)
  have hC' := Heap.get?_push_of_some { cls := .ref C, dict := some h.objs.size, data := .seq #[] } (Heap.get?_push_of_some emptyDict hC)
  refine wpAny_load hC' ?_
  refine wpAny_pure ?_
  rw [e2]
  refine wpAny_pure (wpAny_pure ?_)
  show R _ _
  rw [Heap.size_push]
  exact hq
theorem make_L {init : Value} (Y : MakesL (model prog w) h C) (hi : Looks (model prog w) h (typeLookup (.ref C) "__init__") (some init))
    (hb : ∀ self, Looks (model prog w) h (bindSpecial init self) (init, [self]))
    (hq : codeAny (model prog w) (A.under (.builtin "type.__call__" ⟨[.ref C], []⟩)) (.call init ⟨[.ref (h.objs.size + 1)], []⟩) (InitBack (h.objs.size + 1) R) ⟨(h.push emptyDict).push { cls := .ref C, dict := some h.objs.size, data := .seq #[] }, g, d, t, os⟩) :
    codeAny (model prog w) A (.call (.ref C) ⟨[], []⟩) R ⟨h, g, d, t, os⟩ := by
  have Y' := Y
  obtain ⟨⟨oc, od, cd, sl, hC, e1, e2, e4⟩, made, base, self, top, call, typ⟩ := Y
  refine codeAny_of_tree ?_
  show wpAny _ _ (callAny (.ref C) _) _ _ _
  refine nd_load hC ?_
  show wpAny _ _ (callAny.viaDunder (.ref C) _) _ _ _
  unfold callAny.viaDunder
  refine wpAny_bind (call.at ?_)
  dsimp only
  rw [tc_bind]
  refine wpAny_bind (wpAny_pure (wpAny_bind (wpAny_pure ?_)))
  refine wpAny_pure (a := Fin.again (.call (.builtin "type.__call__") ⟨[.ref C], []⟩)) (And.intro rfl ?_)
  refine codeAny_call_builtin_at (Code.quiet_builtin _ (by decide +kernel)) entry_typeCall (check_slot tc_kind tc_split typ (tc_args _ _ _) ?_)
  unfold Builtin.«type.__call__»
  have hm : Looks (model prog w) h (mroOf (.ref C)) cd.mro := ((Looks.ld (part := none) hC).andThen .now).andThen .now
  repeat (first | simp only [e4, Bool.false_eq_true, if_false] | with_reducible refine wpAny_call ?_ | lk)
  refine new_L Y' ?_
  have k : ∀ b o, h.get? b = some o → ((h.push emptyDict).push { cls := .ref C, dict := some h.objs.size, data := .seq #[] }).get? b = some o := fun b o e => Heap.get?_push_of_some _ (Heap.get?_push_of_some _ e)
  have hx : ((h.push emptyDict).push { cls := .ref C, dict := some h.objs.size, data := .seq #[] }).get? (h.objs.size + 1) = some { cls := .ref C, dict := some h.objs.size, data := .seq #[] } := by heap_get
  have t1 : Looks (model prog w) ((h.push emptyDict).push { cls := .ref C, dict := some h.objs.size, data := .seq #[] }) (typeOf (.ref (h.objs.size + 1))) (.ref C) := (Looks.ld hx).andThen .now
  have s1 := self.keeps k
  have i1 := hi.keeps k
  have b1 := (hb (.ref (h.objs.size + 1))).keeps k
  unfold isInstance callSpecial? specialOf
  repeat (first | with_reducible refine wpAny_call ?_ | lk)
  refine codeAny_mono hq fun r s' z => ?_
  rcases r with e | (v | _ | _ | _) <;> first | exact z | exact z.elim | skip
  obtain ⟨rfl, z⟩ := z
  exact wpAny_pure (wpAny_pure z)
end
section
variable {prog : Program} {w : World} {A : Around} {K : Frag} {s : Shared} {h₀ : Heap} {L : Addr} {m : Str → Option Value} {news : List (Addr × Obj)} {R : Result → Shared → Prop}
theorem make_acc {fI : Addr} (F : Fr h₀ L s.heap m) (N : News h₀ L s.heap news) (X : K.In s.heap) (hm : makesL K 101 = true)
    (hi : findIn K (.ref 101) "__init__" = some (some (.ref fI))) (hf : typeIn K (.ref fI) = some (.type "function"))
    (h : ∀ x dx h', Fr h₀ L h' m → News h₀ L h' ((x, accObj dx #[] 0) :: (dx, emptyDict) :: news) → (∀ p ∈ news, p.1 < dx) → dx < x →
      codeAny (model prog w) (A.under (.builtin "type.__call__" ⟨[.ref 101], []⟩)) (.call (.ref fI) ⟨[.ref x], []⟩) (InitBack x R) { s with heap := h' }) :
    codeAny (model prog w) A (.call (.ref 101) ⟨[], []⟩) R s := by
  obtain ⟨hh, g, d, t, os⟩ := s
  refine make_L (makesL_of X hm) (looks_findIn X hi) (fun self => bind_fn X self hf) (h _ hh.objs.size _ ((F.push _).push _) ?_ (fun p hp => Heap.lt_size (N p hp).1) (Nat.lt_succ_self _))
  have := (N.push F emptyDict).push (F.push _) (accObj hh.objs.size #[] 0)
  rwa [Heap.size_push] at this
end

theorem refuse_list (self : Value) (C : Addr) : refuseLoop self "__setattr__" [.ref C, .type "list", .type "object"] = pure () := by
  rw [refuseLoop_ref]
  kernel_rfl

open Builtin Builtin.ObjectAttr
/-- a class whose line is: itself, list, object -/
def listOver (K : Frag) (C : Addr) : Bool := (clsIn K C).any fun cd => decide (cd.mro = [.ref C, .type "list", .type "object"])
theorem listOver_mro {K : Frag} {C : Addr} (h : listOver K C = true) : ∃ cd, clsIn K C = some cd ∧ cd.mro = [.ref C, .type "list", .type "object"] := by
  obtain ⟨cd, hc, ho⟩ := any_some h
  exact ⟨cd, hc, of_decide_eq_true ho⟩
theorem listOver_in {K : Frag} {C : Addr} (h : listOver K C = true) {b : Value} (hb : b = .type "list" ∨ b = .type "object" ∨ b = .ref C) : mroIn K C b = some true := by
  obtain ⟨cd, hc, hm⟩ := listOver_mro h
  unfold mroIn
  rw [hc, Option.bind_some, hm]
  rcases hb with rfl | rfl | rfl <;> simp
section
variable {prog : Program} {w : World} {A : Around} {K : Frag} {C x : Addr} {s : Shared} {h₀ : Heap} {L : Addr} {m : Str → Option Value} {news news' : List (Addr × Obj)} {R : Result → Shared → Prop} {E : Value → Shared → Prop}
theorem osa_acc {ox : Obj} {dx : Addr} {name : Str} {tk : Tok} {v : Value} {es es' : List DictEntry} {n n' : Nat} {pre post : List (Addr × Obj)} (F : Fr h₀ L s.heap m) (X : K.In s.heap) (N : News h₀ L s.heap (pre ++ (dx, dictOf es n) :: post)) (I : InstAt s.heap x ox C (some (dictOf es n))) (hd : ox.dict = some dx)
    (hp : listOver K C = true) (ht : takerIn K C name = some none) (hh : hasDictIn K C = true) (hl : (getL name es).isSome = true) (h1 : ∀ p ∈ pre, p.1 ≠ dx) (h2 : ∀ p ∈ post, p.1 ≠ dx)
    (eq1 : Obj.putName name (PyData.keyHash w.params name) (.str name s.toks) v (dictOf es n) = dictOf es' n') (hz : es'.length ≤ 1000)
    (h : ∀ h', Fr h₀ L h' m → News h₀ L h' (pre ++ (dx, dictOf es' n') :: post) → R (.ok (.ret .none)) { s with heap := h', toks := s.toks + 1 }) :
    codeAny (model prog w) A (.call (.builtin "object.__setattr__") ⟨[.ref x, .str name tk, v], []⟩) R s := by
  obtain ⟨cd, hc, hm⟩ := listOver_mro hp
  have SF := PySem.F.store_object
  have sub : Looks (model prog w) s.heap (isInstance (.ref x) (.type "object")) true := I.type.andThen (looks_mroIn X (listOver_in hp (.inr (.inl rfl))))
  refine codeAny_call_builtin SF.slot.plain SF.entry (@check_slot (model prog w) _ _ s "object.__setattr__" "object" "__setattr__" (.ref x) [.str name tk, v] [] _ SF.kind SF.split sub (SF.args (.ref x) (.str name tk) v) ?_)
  obtain ⟨attr, ha, hr⟩ := Option.bind_eq_some_iff.mp ht
  have hmr : Looks (model prog w) s.heap (mroOf (.ref C)) cd.mro := (looks_clsIn X hc).andThen .now
  have L3 : Looks (model prog w) s.heap (storeTaker? attr) none := by
    cases attr with
    | none => cases hr; exact .now
    | some a =>
      obtain ⟨b, hb, hb'⟩ := Option.map_eq_some_iff.mp hr
      refine (looks_takesIn X hb).andThen ?_
      cases b with
      | false => exact .now
      | true => simp at hb'
  rw [osa_eq, refuse_eq]
  refine wpAny_bind (wpAny_bind (I.type.here (wpAny_bind (hmr.here ?_))))
  rw [hm, refuse_list]
  refine wpAny_pure (wpAny_bind (I.type.here (wpAny_bind ((looks_findIn X ha).here (wpAny_bind (L3.here ?_))))))
  obtain ⟨cd', hc', hd'⟩ := any_some hh
  obtain ⟨U1, U2⟩ := news_upd (f := Obj.putName name (PyData.keyHash w.params name) (.str name s.toks) v) F N h1 h2 eq1 rfl
  have D := (N (dx, dictOf es n) (by simp)).1
  have D' := (U2 (dx, dictOf es' n') (by simp)).1
  obtain ⟨hx, hcl, hn, -⟩ := I
  obtain ⟨oc, odi, oda, osl⟩ := ox
  dsimp only at hcl hd
  subst hcl hd
  refine wpAny_bind (wpAny_pure (wpAny_bind (wpAny_bind (wpAny_loadPart hx (wpAny_bind ((looks_clsIn X hc').here ?_))))))
  rw [hd']
  refine wpAny_pure (a := some dx) (wpAny_bind (wpAny_pure (wpAny_bind ?_)))
  unfold nsSet
  refine wpAny_bind (wpAny_bind (wpAny_askSetting (wpAny_pure (wpAny_bind (wpAny_mkText (wpAny_bind (wpAny_loadPart D ?_)))))))
  dsimp only
  have c : (!es.toArray.any (·.key.isStr name) && es.toArray.any (·.refKey)) = false := by
    rw [← Array.any_toList, ← Array.any_toList]
    rw [← lookIn_dict (n := n)] at hl
    unfold lookIn at hl
    dsimp only at hl
    split at hl
    · rename_i en he
      rw [List.any_eq_true.mpr ⟨en, List.mem_of_find?_eq_some he, List.find?_some he⟩]; rfl
    · split at hl
      · cases hl
      · rename_i z; rw [Bool.not_eq_true] at z; rw [z, Bool.and_false]
  rw [aRefKeyMayBeTheName_at, c]
  refine wpAny_updatePart D ?_
  refine wpAny_bind (wpAny_lookBehind D' (pastItsLine_dict (by rw [List.size_toArray, sizeLine_eq]; omega)) ?_)
  exact wpAny_pure (h _ U1 U2)
theorem set_accL {ox : Obj} {dx : Addr} {name : Str} {v : Value} {es es' : List DictEntry} {n n' : Nat} {Q : Unit → Shared → Prop} (F : Fr h₀ L s.heap m) (X₀ : K.In h₀) (N : News h₀ L s.heap news) (I : InstAt s.heap x ox C (some (dictOf es n))) (hd : ox.dict = some dx)
    (hs : findIn K (.ref C) "__setattr__" = some (some (.builtin "object.__setattr__"))) (hp : listOver K C = true) (ht : takerIn K C name = some none) (hh : hasDictIn K C = true) (hl : (getL name es).isSome = true)
    (e : (putL name (PyData.keyHash w.params name) (.str name (s.toks + 1)) v es, putN name es n) = (es', n')) (U : Upd dx (dictOf es n) (dictOf es' n') news news') (hz : es'.length ≤ 1000)
    (h : ∀ h', Fr h₀ L h' m → News h₀ L h' news' → Q () { s with heap := h', toks := s.toks + 2 }) :
    wpAny (model prog w) A (setAttr (.ref x) name v) Q E s := by
  obtain ⟨pre, post, rfl, rfl, h1, h2⟩ := U.split
  obtain ⟨e1, e2⟩ := Prod.mk.inj e
  exact set_plain (X₀.keeps F.keep) I hs (osa_acc (s := { s with toks := s.toks + 1 }) F (X₀.keeps F.keep) N I hd hp ht hh hl h1 h2 (by rw [putName_dict, e1, e2]) hz fun h' F' N' => h h' F' N')
end
end Mine
end
section
open PySem PySem.W PyProof.Rows PySem.Calls
set_option maxRecDepth 100000
set_option maxHeartbeats 4000000
namespace Mine
abbrev bfmObj (id : String) (x : Addr) : Obj := { cls := .type "builtin_function_or_method", data := .fields #[.builtin id, .ref x] }
abbrev mwObj (id : String) (x : Addr) : Obj := { cls := .type "method-wrapper", data := .fields #[.builtin id, .ref x] }
/-- what a built-in of list's is: its type, that type's way to bind it -/
structure BoundBy (id T gid bt : String) : Prop where
  typ : typeOf (.builtin id) = pure (.type T)
  look : typeLookup (.type T) "__get__" = pure (some (.builtin gid))
theorem bb_pop : BoundBy "list.pop" "method_descriptor" "method_descriptor.__get__" "builtin_function_or_method" := ⟨by kernel_rfl, by rw [typeLookup_type, builtinLookup_eq_fast]; kernel_rfl⟩
theorem bb_len : BoundBy "list.__len__" "wrapper_descriptor" "wrapper_descriptor.__get__" "method-wrapper" := ⟨by kernel_rfl, by rw [typeLookup_type, builtinLookup_eq_fast]; kernel_rfl⟩
theorem bb_init : BoundBy "list.__init__" "wrapper_descriptor" "wrapper_descriptor.__get__" "method-wrapper" := ⟨by kernel_rfl, by rw [typeLookup_type, builtinLookup_eq_fast]; kernel_rfl⟩
section
variable {prog : Program} {w : World} {M : Model} {A : Around} {E : Value → Shared → Prop} {h : Heap} {g : Array GenState} {d : Drawn} {t : Nat} {os : OsState}
theorem sup_ga {so D x C : Addr} {l₀ l : List Value} {K : Frag} {name : Str} {tk : Tok} {Q : Fin → Shared → Prop} {id T gid bt : String} (Y : BoundBy id T gid bt)
    (hso : h.get? so = some { cls := .type "super", dict := none, data := .fields #[.ref D, .ref x, .ref C], slots := #[] }) (hno : Looks (model prog w) h (opaqueClassAbove (.ref C)) none)
    (hC : Looks (model prog w) h (mroOf (.ref C)) l₀) (hl : (l₀.dropWhile (· != .ref D)).drop 1 = l) (X : K.In h)
    (hf : alongIn K name l = some (some (.builtin id))) (hxC : x ≠ C) (hn : (name == ("__class__" : Str)) = false)
    (hq : codeAny (model prog w) A (.call (.builtin gid) ⟨[.builtin id, .ref x, .ref C], []⟩) (wants (fun v s' => Q (.done (.ret v)) s') E) ⟨h, g, d, t, os⟩) :
    wpAny (model prog w) A (Builtin.«super.__getattribute__» ⟨[.ref so, .str name tk], []⟩) Q E ⟨h, g, d, t, os⟩ := by
  have hlk := Y.look
  have hty := Y.typ
  have hne : (Value.ref x == Value.ref C) = false := by simp [hxC]
  have hdt : ({ cls := .type "super", dict := none, data := .fields #[.ref D, .ref x, .ref C], slots := #[] } : Obj).data = .fields #[.ref D, .ref x, .ref C] := rfl
  have f0 : (#[.ref D, .ref x, .ref C] : Array Value)[0]? = some (.ref D) := rfl
  have f1 : (#[.ref D, .ref x, .ref C] : Array Value)[1]? = some (.ref x) := rfl
  have f2 : (#[.ref D, .ref x, .ref C] : Array Value)[2]? = some (.ref C) := rfl
  unfold Builtin.«super.__getattribute__»
  repeat (first
    | (with_reducible refine wpAny_field hso hdt f0 ?_) | (with_reducible refine wpAny_field hso hdt f1 ?_) | (with_reducible refine wpAny_field hso hdt f2 ?_)
    | (with_reducible refine ks_wpAny_notOpaque hno ?_)
    | (with_reducible refine Looks.at hC ?_; rw [hl])
    | (refine ks_forIn_along X (fun _ _ => rfl) rfl ?_ hf)
    | (simp only [hn, hne, hty, hlk, Bool.or_false, Bool.false_eq_true, if_false])
    | wp_step
    | dsimp only)
  refine codeAny_mono hq fun r s' z => ?_
  rcases r with e | (v | _ | _ | _) <;> first | exact z | exact z.elim | skip
  exact wpAny_bind (wpAny_pure (wpAny_pure (wpAny_pure z)))
theorem slot_md : Slot "method_descriptor" "__get__" "method_descriptor.__get__" := .of (owner := "method_descriptor") (n := "__get__") (by rw [typeLookup_type, builtinLookup_eq_fast]; kernel_rfl) (by decide +kernel) (by decide +kernel) (by decide +kernel)
  (by first | exact .inl (by decide +kernel) | exact .inr (by decide +kernel)) (by rw [isSubtype_type]; kernel_rfl)
theorem slot_wd : Slot "wrapper_descriptor" "__get__" "wrapper_descriptor.__get__" := .of (owner := "wrapper_descriptor") (n := "__get__") (by rw [typeLookup_type, builtinLookup_eq_fast]; kernel_rfl) (by decide +kernel) (by decide +kernel) (by decide +kernel)
  (by first | exact .inl (by decide +kernel) | exact .inr (by decide +kernel)) (by rw [isSubtype_type]; kernel_rfl)
theorem entry_md : entryFor table "method_descriptor.__get__" = some Builtin.«method_descriptor.__get__» := entryFor_of_tree (by kernel_rfl)
theorem entry_wd : entryFor table "wrapper_descriptor.__get__" = some Builtin.«wrapper_descriptor.__get__» := entryFor_of_tree (by kernel_rfl)
theorem args_md (a b c : Value) : argsOk "method_descriptor.__get__" ⟨[a, b, c], []⟩ := by unfold argsOk; kernel_rfl
theorem args_wd (a b c : Value) : argsOk "wrapper_descriptor.__get__" ⟨[a, b, c], []⟩ := by unfold argsOk; kernel_rfl
theorem own_pop : ".".intercalate ("list.pop".cutAt '.').dropLast = "list" := by decide +kernel
theorem own_len : ".".intercalate ("list.__len__".cutAt '.').dropLast = "list" := by decide +kernel
theorem own_init : ".".intercalate ("list.__init__".cutAt '.').dropLast = "list" := by decide +kernel
theorem get_pop {x C C' : Addr} {od : Option Addr} {dt : Data} {sl : Array (Option Value)} {R : Result → Shared → Prop} (hx : h.get? x = some ⟨.ref C, od, dt, sl⟩) (hsub : Looks (model prog w) h (isSubtype (.ref C) (.type "list")) true)
    (hq : R (.ok (.ret (.ref h.objs.size))) ⟨h.push (bfmObj "list.pop" x), g, d, t, os⟩) :
    codeAny (model prog w) A (.call (.builtin "method_descriptor.__get__") ⟨[.builtin "list.pop", .ref x, .ref C'], []⟩) R ⟨h, g, d, t, os⟩ := by
  refine codeAny_call_builtin slot_md.plain entry_md (slot_md.check _ _ _ _ _ _ _ _ bb_pop.typ (args_md _ _ _) ?_)
  unfold Builtin.«method_descriptor.__get__»
  have ho := own_pop
  rw [← ho] at hsub
  repeat lk
  exact hq
theorem get_len {x C C' : Addr} {od : Option Addr} {dt : Data} {sl : Array (Option Value)} {R : Result → Shared → Prop} (hx : h.get? x = some ⟨.ref C, od, dt, sl⟩) (hsub : Looks (model prog w) h (isSubtype (.ref C) (.type "list")) true)
    (hq : R (.ok (.ret (.ref h.objs.size))) ⟨h.push (mwObj "list.__len__" x), g, d, t, os⟩) :
    codeAny (model prog w) A (.call (.builtin "wrapper_descriptor.__get__") ⟨[.builtin "list.__len__", .ref x, .ref C'], []⟩) R ⟨h, g, d, t, os⟩ := by
  refine codeAny_call_builtin slot_wd.plain entry_wd (slot_wd.check _ _ _ _ _ _ _ _ bb_len.typ (args_wd _ _ _) ?_)
  unfold Builtin.«wrapper_descriptor.__get__»
  have ho := own_len
  rw [← ho] at hsub
  repeat lk
  exact hq
theorem get_init {x C C' : Addr} {od : Option Addr} {dt : Data} {sl : Array (Option Value)} {R : Result → Shared → Prop} (hx : h.get? x = some ⟨.ref C, od, dt, sl⟩) (hsub : Looks (model prog w) h (isSubtype (.ref C) (.type "list")) true)
    (hq : R (.ok (.ret (.ref h.objs.size))) ⟨h.push (mwObj "list.__init__" x), g, d, t, os⟩) :
    codeAny (model prog w) A (.call (.builtin "wrapper_descriptor.__get__") ⟨[.builtin "list.__init__", .ref x, .ref C'], []⟩) R ⟨h, g, d, t, os⟩ := by
  refine codeAny_call_builtin slot_wd.plain entry_wd (slot_wd.check _ _ _ _ _ _ _ _ bb_init.typ (args_wd _ _ _) ?_)
  unfold Builtin.«wrapper_descriptor.__get__»
  have ho := own_init
  rw [← ho] at hsub
  repeat lk
  exact hq
end
end Mine
end
section
open PySem PySem.W PyProof.Rows PySem.Calls
set_option maxRecDepth 100000
set_option maxHeartbeats 4000000
namespace Mine
section
variable {prog : Program} {w : World} {A : Around} {E : Value → Shared → Prop} {h : Heap} {g : Array GenState} {d : Drawn} {t : Nat} {os : OsState}
theorem getm_sup {so D x C : Addr} {l₀ l : List Value} {K : Frag} {name : Str} {pl : Sem Bool} {Q : Value × List Value → Shared → Prop} {id T gid bt : String} {ob : Obj} (Y : BoundBy id T gid bt)
    (hso : h.get? so = some { cls := .type "super", dict := none, data := .fields #[.ref D, .ref x, .ref C], slots := #[] }) (hno : Looks (model prog w) h (opaqueClassAbove (.ref C)) none)
    (hC : Looks (model prog w) h (mroOf (.ref C)) l₀) (hl : (l₀.dropWhile (· != .ref D)).drop 1 = l) (X : K.In h)
    (hf : alongIn K name l = some (some (.builtin id))) (hxC : x ≠ C) (hn : (name == ("__class__" : Str)) = false)
    (hg : ∀ (A : Around) (R : Result → Shared → Prop) (t : Nat), R (.ok (.ret (.ref h.objs.size))) ⟨h.push ob, g, d, t, os⟩ → codeAny (model prog w) A (.call (.builtin gid) ⟨[.builtin id, .ref x, .ref C], []⟩) R ⟨h, g, d, t, os⟩)
    (hq : Q (.ref h.objs.size, []) ⟨h.push ob, g, d, t + 1, os⟩) :
    wpAny (model prog w) A (getMethod (.ref so) name pl) Q E ⟨h, g, d, t, os⟩ := by
  have hlk := F.ks_slot_super_ga.lookup
  have hcan := F.ks_canon_super_ga
  have hT : ∀ t', (⟨h, g, d, t', os⟩ : Shared).TypeIs (.ref so) "super" := fun _ => ⟨_, hso, rfl⟩
  unfold getMethod
  refine wpAny_bind (wpAny_specialOf (hT _) hlk ?_)
  show wpAny _ _ (if (Manifest.canonical "super.__getattribute__" != "object.__getattribute__") = true then _ else _) _ _ _
  rw [if_pos hcan]
  unfold getAttr getAttrBy
  refine wpAny_bind (wpAny_bind (wpAny_mkText (wpAny_holding (wpAny_bind (wpAny_typeOf (hT _) (wpAny_bind (wpAny_of_eq hlk ?_)))))))
  show wpAny _ _ (getAttrByItsOwn (.ref so) (.str name t) (.type "super") (.builtin "super.__getattribute__") true false) _ _ _
  unfold getAttrByItsOwn hookBefore callGetattribute boundAndCalled
  refine wpAny_bind (wpAny_of_eq (show (if onTheHeap (.type "super") then typeLookup (.type "super") "__getattr__" else pure none) = pure none from rfl) ?_)
  refine wpAny_bind (wpAny_attempt (wpAny_holding ?_))
  show wpAny _ _ (bindSpecial (.builtin "super.__getattribute__") (.ref so) >>= _) _ _ _
  refine wpAny_bind (wpAny_of_eq (F.ks_slot_super_ga.bind _) ?_)
  refine wpAny_mono (Q := fun v s' => v = .ref h.objs.size ∧ s' = ⟨h.push ob, g, d, t + 1, os⟩) (E := fun _ _ => False)
    (wpAny_call_entry F.ks_slot_super_ga (hT _) F.ks_entry_super_ga (sup_ga Y hso hno hC hl X hf hxC hn (hg _ _ _ ⟨_, rfl, rfl, rfl⟩)) (F.ks_gaArgs_super _ _)) (fun v s' hv => ?_) fun _ _ z => z.elim
  obtain ⟨rfl, rfl⟩ := hv
  exact wpAny_pure (wpAny_pure hq)
end
section
variable {prog : Program} {w : World} {A : Around} {E : Value → Shared → Prop} {s : Shared} {h₀ : Heap} {L : Addr} {m : Str → Option Value} {news news' : List (Addr × Obj)} {K : Frag} {x so D C dx : Addr} {its : Array Value} {n : Nat} {odx : Option Obj} {ox : Obj}
theorem getm_supK {name : Str} {pl : Sem Bool} {Q : Value × List Value → Shared → Prop} {id T gid bt : String} (Y : BoundBy id T gid bt) (ob : Obj) (hob : ob.isFreed = false)
    (hg : ∀ (h : Heap) (g : Array GenState) (d : Drawn) (os : OsState) (A : Around) (R : Result → Shared → Prop) (t : Nat) (od : Option Addr) (dt : Data) (sl : Array (Option Value)), h.get? x = some ⟨.ref C, od, dt, sl⟩ → Looks (model prog w) h (isSubtype (.ref C) (.type "list")) true →
      R (.ok (.ret (.ref h.objs.size))) ⟨h.push ob, g, d, t, os⟩ → codeAny (model prog w) A (.call (.builtin gid) ⟨[.builtin id, .ref x, .ref C], []⟩) R ⟨h, g, d, t, os⟩)
    (F : Fr h₀ L s.heap m) (X₀ : K.In h₀) (N : News h₀ L s.heap news) (hso : (so, ks_superObj D x C) ∈ news) (I : InstAt s.heap x ox C odx) (ho : nsIn K cStatics "thirdparty.any" = some none)
    (hm : ks_superIn K C D name = some (some (.builtin id))) (hov : listOver K C = true) (hn : (name == ("__class__" : Str)) = false)
    (h : ∀ q h', Fr h₀ L h' m → News h₀ L h' ((q, ob) :: news) → (∀ p ∈ news, p.1 < q) → Q (.ref q, []) { s with heap := h', toks := s.toks + 1 }) : wpAny (model prog w) A (getMethod (.ref so) name pl) Q E s := by
  have X : K.In s.heap := X₀.keeps F.keep
  obtain ⟨hh, g, d, t, os⟩ := s
  obtain ⟨cd, hc, hmr⟩ := listOver_mro hov
  unfold ks_superIn at hm
  rw [hc] at hm
  obtain ⟨od', dt', sl', e'⟩ : ∃ od dt sl, hh.get? x = some ⟨.ref C, od, dt, sl⟩ := by
    obtain ⟨c, od, dt, sl⟩ := ox
    have := I.cls
    dsimp only at this
    subst this
    exact ⟨_, _, _, I.at_⟩
  refine getm_sup Y (N _ hso).1 (looks_opaque X ho) (l₀ := cd.mro) ?_ rfl X hm (ks_ne X I hc) hn (fun A R t hR => hg hh g d os A R t od' dt' sl' e' (looks_mroIn X (listOver_in hov (.inl rfl))) hR) ?_
  · exact fun A Q E s k q => wpAny_bind ((looks_clsIn X hc) A _ E s k (wpAny_pure q))
  · obtain ⟨F', N', l'⟩ := ks_newsPush (s := ⟨hh, g, d, t, os⟩) (o := ob) F N rfl (Heap.get?_push_at rfl hob) (fun b o e => Heap.get?_push_of_some _ e)
    exact h _ _ F' N' l'
end
end Mine
end
section
open PySem PySem.W PyProof.Rows PySem.Calls
set_option maxRecDepth 100000
set_option maxHeartbeats 4000000
namespace Mine
theorem erase_last {α : Type} (a : Array α) : a.eraseIdxIfInBounds (a.size - 1) = a.pop := by
  apply Array.toList_inj.mp
  simp
  rcases a with ⟨l⟩
  simp
theorem entry_pop : entryFor table "list.pop" = some Builtin.«list.pop» := entryFor_of_tree (by kernel_rfl)
theorem entry_len : entryFor table "list.__len__" = some Builtin.«list.__len__» := entryFor_of_tree (by kernel_rfl)
theorem entry_init : entryFor table "list.__init__" = some Builtin.«list.__init__» := entryFor_of_tree (by kernel_rfl)
section
variable {prog : Program} {w : World} {A : Around} {E : Value → Shared → Prop} {h : Heap} {g : Array GenState} {d : Drawn} {t : Nat} {os : OsState} {R : Result → Shared → Prop} {x q : Addr} {cd : ClassData}
theorem call_mw {id : String} {b : Builtin} (hq : h.get? q = some (mwObj id x)) (hok : checkBoundCall id ⟨[.ref x], []⟩ = pure ()) (hpl : plainId id = true) (hb : entryFor table id = some b)
    (hR : wpAny (model prog w) (A.in1) (b ⟨[.ref x], []⟩) (fun fin s' => match fin with | .done f => R (.ok f) s' | .again c' => c'.quiet = true ∧ codeAny (model prog w) A c' R s') (fun e s' => R (.error e) s') ⟨h, g, d, t, os⟩) :
    codeAny (model prog w) A (.call (.ref q) ⟨[], []⟩) R ⟨h, g, d, t, os⟩ := by
  refine codeAny_of_tree ?_
  show wpAny _ _ (callAny (.ref q) _) _ _ _
  refine nd_load hq ?_
  show wpAny _ _ (do checkBoundCall id ⟨[.ref x], []⟩; again (.builtin id ⟨[.ref x], []⟩)) _ _ _
  refine wpAny_bind (wpAny_of_eq hok ?_)
  refine wpAny_pure ⟨plainId_quiet hpl _, codeAny_builtin hb ?_⟩
  rw [Around.under_plainId hpl _]
  exact hR
theorem call_len {C dx : Addr} {its : Array Value} {n : Nat} (hq : h.get? q = some (mwObj "list.__len__" x)) (hx : h.get? x = some ⟨.ref C, some dx, .seq its n, #[]⟩) (hz : its.size ≤ sizeLine)
    (hR : R (.ok (.ret (.int its.size t))) ⟨h, g, d, t + 1, os⟩) :
    codeAny (model prog w) A (.call (.ref q) ⟨[], []⟩) R ⟨h, g, d, t, os⟩ := by
  refine call_mw hq (by kernel_rfl) (by decide +kernel) entry_len ?_
  unfold Builtin.«list.__len__»
  repeat lk
  exact hR
theorem upd_seq {C : Value} {dd : Option Addr} {its its' : Array Value} {n n' : Nat} {f : Array Value → Array Value} {Q : Unit → Shared → Prop} (hx : h.get? x = some ⟨C, dd, .seq its n, #[]⟩) (he : f its = its') (hn : (if its'.size == its.size then n else n + 1) = n') (hz : its.size ≤ sizeLine) (hz' : its'.size ≤ sizeLine + 1)
    (hQ : ∀ h', h'.get? x = some ⟨C, dd, .seq its' n', #[]⟩ → Heap.SameBut x h h' → Q () ⟨h', g, d, t, os⟩) : wpAny (model prog w) A (updateSeq x f) Q E ⟨h, g, d, t, os⟩ := by
  refine wpAny_updateSeq (s := ⟨h, g, d, t, os⟩) hx rfl (hQ _ ?_ (Heap.SameBut.update ..)) hz (by rw [he]; exact hz')
  have := Heap.get?_update_self (h := h) (Obj.mapSeq f) hx rfl
  rw [this]
  subst hn he
  rfl
theorem call_init {C dx : Addr} {n : Nat} (hq : h.get? q = some (mwObj "list.__init__" x)) (hx : h.get? x = some ⟨.ref C, some dx, .seq #[] n, #[]⟩)
    (hR : ∀ h', h'.get? x = some ⟨.ref C, some dx, .seq #[] n, #[]⟩ → Heap.SameBut x h h' → R (.ok (.ret .none)) ⟨h', g, d, t, os⟩) :
    codeAny (model prog w) A (.call (.ref q) ⟨[], []⟩) R ⟨h, g, d, t, os⟩ := by
  refine call_mw hq (by kernel_rfl) (by decide +kernel) entry_init ?_
  unfold Builtin.«list.__init__»
  repeat (first | (with_reducible refine upd_seq hx rfl rfl (by decide) (by decide) ?_; intro h' hx' hs') | lk)
  exact hR _ hx' hs'
theorem call_pop {K : Frag} {od : Option Addr} {sl : Array (Option Value)} {dx : Addr} {its : Array Value} {n : Nat} {v : Value} (X : K.In h) (hK : K.lookup 101 = some ⟨.type "type", od, .cls cd, sl⟩) (hqn : cd.qualname = Str.ofString "_Accumulator") (hov : listOver K 101 = true) (hq : h.get? q = some (bfmObj "list.pop" x)) (hx : h.get? x = some ⟨.ref 101, some dx, .seq its n, #[]⟩) (hv : its.back? = some v) (hz : its.size ≤ sizeLine)
    (hR : ∀ h', h'.get? x = some ⟨.ref 101, some dx, .seq its.pop (n + 1), #[]⟩ → Heap.SameBut x h h' → R (.ok (.ret v)) ⟨h', g, d, t, os⟩) :
    codeAny (model prog w) A (.call (.ref q) ⟨[], []⟩) R ⟨h, g, d, t, os⟩ := by
  have hC := X _ _ hK
  have hc : clsIn K 101 = some cd := by unfold clsIn; rw [hK]
  have hmr : cd.mro = [.ref 101, .type "list", .type "object"] := by
    obtain ⟨cd', h1, h2⟩ := listOver_mro hov
    rw [hc] at h1; cases h1; exact h2
  have hmod : Looks (model prog w) h (isSubtype (.ref 101) (.type "module")) false := looks_mroIn X (by unfold mroIn; rw [hc, Option.bind_some, hmr]; simp)
  have hargs : Bind.checkArgs "list.pop" { machinery := Manifest.Machinery.positional, full := toString cd.qualname.toString ++ toString "." ++ toString (Bind.lastOf "list.pop"), short := "pop", receiver := Manifest.Receiver.self, params := [{ name := "index", kind := Manifest.ParamKind.posOnly, required := false }] } ⟨[.ref x], []⟩ = pure () := by
    rw [hqn]; kernel_rfl
  refine codeAny_of_tree ?_
  show wpAny _ _ (callAny (.ref q) _) _ _ _
  refine nd_load hq ?_
  show wpAny _ _ (do checkBoundCall "list.pop" ⟨[.ref x], []⟩; again (.builtin "list.pop" ⟨[.ref x], []⟩)) _ _ _
  refine wpAny_bind ?_
  unfold checkBoundCall
  repeat (first | refine wpAny_of_eq hargs ?_ | lk)
  refine ⟨plainId_quiet (by decide +kernel) _, codeAny_builtin entry_pop ?_⟩
  rw [Around.under_plainId (by decide +kernel) _]
  have hne : 0 < its.size := by
    rcases Nat.eq_zero_or_pos its.size with h0 | h0
    · have : its = #[] := Array.eq_empty_of_size_eq_zero h0
      subst this; simp at hv
    · exact h0
  have he : its.isEmpty = false := by simp only [Array.isEmpty, decide_eq_false_iff_not]; omega
  have hpopf := erase_last its
  have hpopn : (if its.pop.size == its.size then n else n + 1) = n + 1 := by
    rw [Array.size_pop, if_neg]
    simp only [beq_iff_eq]
    omega
  have hpopz : its.pop.size ≤ sizeLine + 1 := by simp; omega
  have hlast : its[its.size - 1]? = some v := by rw [← hv]; simp [Array.back?]
  have hsi : seqIndex? (-1) its.size = some (its.size - 1) := by
    unfold seqIndex?
    have h1 : (-1 : Int) < 0 := by decide
    have h2 : (0 : Int) ≤ -1 + (its.size : Int) := by omega
    have h3 : -1 + (its.size : Int) < (its.size : Int) := by omega
    have h4 : (-1 + (its.size : Int)).toNat = its.size - 1 := by omega
    simp only [h1, if_true, h2, h3, decide_true, Bool.and_self, h4]
  unfold Builtin.«list.pop»
  repeat (first | simp only [he, hsi, hlast, Bool.false_eq_true, if_false, Option.bind_some, Option.map_some] | (with_reducible refine upd_seq hx hpopf hpopn hz hpopz ?_; intro h' hx' hs') | lk)
  exact hR _ hx' hs'
end
end Mine
end
section
open PySem PySem.W PyProof.Rows PySem.Calls
set_option maxRecDepth 100000
set_option maxHeartbeats 4000000
namespace Mine
theorem entry_append : entryFor table "list.append" = some Builtin.«list.append» := entryFor_of_tree (by kernel_rfl)
theorem la_kind : builtinKind "list.append" = some .method := by decide +kernel
theorem la_split : splitId "list.append" = some ("list", "append") := by decide +kernel
theorem la_args (a b : Value) : argsOk "list.append" ⟨[a, b], []⟩ := by unfold argsOk; kernel_rfl
theorem check_meth {M : Model} {A : Around} {E : Value → Shared → Prop} {s : Shared} {i owner n : String} {self : Value} {rest : List Value} {kw : List (Str × Value)} {Q : Unit → Shared → Prop}
    (hk : builtinKind i = some .method) (hs : splitId i = some (owner, n)) (hi : Looks M s.heap (isInstance self (.type owner)) true) (ha : argsOk i ⟨self :: rest, kw⟩) (q : Q () s) :
    wpAny M A (checkBuiltinCall i ⟨self :: rest, kw⟩) Q E s := by
  simp only [checkBuiltinCall, hk, hs]
  refine wpAny_bind (hi.here ?_)
  simp only [Bool.not_true, Bool.false_eq_true, if_false]
  cases hsig : Manifest.signature? i with
  | none => exact wpAny_pure q
  | some sig =>
    simp only [argsOk, hsig] at ha
    have h2 : Bind.checkArgs i sig ⟨self :: rest, kw⟩ = pure () := ha
    show wpAny M A (Bind.checkArgs i sig ⟨self :: rest, kw⟩) Q E s
    rw [h2]; exact wpAny_pure q
section
variable {prog : Program} {w : World} {A : Around} {E : Value → Shared → Prop} {h : Heap} {g : Array GenState} {d : Drawn} {t : Nat} {os : OsState} {R : Result → Shared → Prop} {x q : Addr}
theorem call_append {C : Addr} {dd : Option Addr} {its : Array Value} {n : Nat} {v : Value} (hsub : Looks (model prog w) h (isSubtype (.ref C) (.type "list")) true) (hx : h.get? x = some ⟨.ref C, dd, .seq its n, #[]⟩) (hz : its.size ≤ sizeLine)
    (hR : ∀ h', h'.get? x = some ⟨.ref C, dd, .seq (its.push v) (n + 1), #[]⟩ → Heap.SameBut x h h' → R (.ok (.ret .none)) ⟨h', g, d, t, os⟩) :
    codeAny (model prog w) A (.call (.builtin "list.append") ⟨[.ref x, v], []⟩) R ⟨h, g, d, t, os⟩ := by
  have hi : Looks (model prog w) h (isInstance (.ref x) (.type "list")) true := Looks.andThen ((Looks.ld hx).andThen .now) hsub
  refine codeAny_call_builtin (by decide +kernel) entry_append (check_meth (s := ⟨h, g, d, t, os⟩) la_kind la_split hi (la_args _ _) ?_)
  have hpn : (if (its.push v).size == its.size then n else n + 1) = n + 1 := by
    rw [Array.size_push, if_neg]; simp only [beq_iff_eq]; omega
  have hpz : (its.push v).size ≤ sizeLine + 1 := by rw [Array.size_push]; omega
  unfold Builtin.«list.append»
  repeat (first | (with_reducible refine upd_seq hx rfl hpn hz hpz ?_; intro h' hx' hs') | lk)
  exact hR _ hx' hs'
end
theorem upd_led {h₀ h h' : Heap} {L x : Addr} {m : Str → Option Value} {news news' : List (Addr × Obj)} {o o' : Obj} (F : Fr h₀ L h m) (N : News h₀ L h news) (U : Upd x o o' news news') (hs : Heap.SameBut x h h') (hx : h'.get? x = some o') :
    Fr h₀ L h' m ∧ News h₀ L h' news' := by
  obtain ⟨pre, post, rfl, rfl, a, b⟩ := U.split
  have z := N (x, o) (List.mem_append.mpr (.inr (.head _)))
  exact ⟨F.change hs z.2.1 z.2.2, news_set N a b hs hx⟩
theorem upd_mem {x : Addr} {o o' : Obj} {l l' : List (Addr × Obj)} (U : Upd x o o' l l') : (x, o) ∈ l := by
  obtain ⟨pre, post, rfl, rfl, a, b⟩ := U.split
  exact List.mem_append.mpr (.inr (.head _))
theorem upd_refl {x : Addr} {o : Obj} {l : List (Addr × Obj)} (hm : (x, o) ∈ l) (hne : ∀ p ∈ l, p.1 = x → p.2 = o) {h₀ h h' : Heap} {L : Addr} {m : Str → Option Value} (F : Fr h₀ L h m) (N : News h₀ L h l) (hs : Heap.SameBut x h h') (hx : h'.get? x = some o) :
    Fr h₀ L h' m ∧ News h₀ L h' l := by
  have z := N (x, o) hm
  refine ⟨F.change hs z.2.1 z.2.2, fun p hp => ?_⟩
  by_cases e : p.1 = x
  · have := hne p hp e
    obtain ⟨a, o2⟩ := p
    dsimp only at e this
    subst e this
    exact ⟨hx, z.2⟩
  · exact ⟨(hs.2 _ e).trans (N p hp).1, (N p hp).2⟩
/-- two facts of one ledger at one address agree -/
theorem led_uniq {h₀ h : Heap} {L x : Addr} {l : List (Addr × Obj)} {o : Obj} (N : News h₀ L h l) (hm : (x, o) ∈ l) : ∀ p ∈ l, p.1 = x → p.2 = o := by
  intro p hp e
  have h1 := (N p hp).1
  have h2 := (N _ hm).1
  rw [e] at h1
  rw [h1] at h2
  exact Option.some.inj h2
section
variable {prog : Program} {w : World} {A : Around} {E : Value → Shared → Prop} {s : Shared} {h₀ : Heap} {L : Addr} {m : Str → Option Value} {news news' : List (Addr × Obj)} {K : Frag} {x q dx : Addr} {its : Array Value} {n : Nat}
theorem lenK {Q : Value → Shared → Prop} (N : News h₀ L s.heap news) (hq : (q, mwObj "list.__len__" x) ∈ news) (hx : (x, accObj dx its n) ∈ news) (hz : its.size ≤ sizeLine)
    (h : Q (.int its.size s.toks) { s with toks := s.toks + 1 }) : wpAny (model prog w) A (call (.ref q) []) Q E s := by
  obtain ⟨hh, g, d, t, os⟩ := s
  exact wpAny_call (call_len (N _ hq).1 (N _ hx).1 hz h)
theorem initK {Q : Value → Shared → Prop} (F : Fr h₀ L s.heap m) (N : News h₀ L s.heap news) (hq : (q, mwObj "list.__init__" x) ∈ news) (hx : (x, accObj dx #[] n) ∈ news)
    (h : ∀ h', Fr h₀ L h' m → News h₀ L h' news → Q .none { s with heap := h' }) : wpAny (model prog w) A (call (.ref q) []) Q E s := by
  obtain ⟨hh, g, d, t, os⟩ := s
  refine wpAny_call (call_init (N _ hq).1 (N _ hx).1 fun h' hx' hs' => ?_)
  obtain ⟨F', N'⟩ := upd_refl hx (led_uniq N hx) F N hs' hx'
  exact h h' F' N'
theorem popK {od : Option Addr} {cd : ClassData} {sl : Array (Option Value)} {v : Value} {Q : Value → Shared → Prop} (F : Fr h₀ L s.heap m) (X₀ : K.In h₀) (N : News h₀ L s.heap news) (hK : K.lookup 101 = some ⟨.type "type", od, .cls cd, sl⟩) (hqn : cd.qualname = Str.ofString "_Accumulator") (hov : listOver K 101 = true)
    (hq : (q, bfmObj "list.pop" x) ∈ news) (U : Upd x (accObj dx its n) (accObj dx its.pop (n + 1)) news news') (hv : its.back? = some v) (hz : its.size ≤ sizeLine)
    (h : ∀ h', Fr h₀ L h' m → News h₀ L h' news' → Q v { s with heap := h' }) : wpAny (model prog w) A (call (.ref q) []) Q E s := by
  obtain ⟨hh, g, d, t, os⟩ := s
  refine wpAny_call (call_pop (X₀.keeps F.keep) hK hqn hov (N _ hq).1 (N _ (upd_mem U)).1 hv hz fun h' hx' hs' => ?_)
  obtain ⟨F', N'⟩ := upd_led F N U hs' hx'
  exact h h' F' N'
theorem appendK {v : Value} {Q : Value → Shared → Prop} (F : Fr h₀ L s.heap m) (X₀ : K.In h₀) (N : News h₀ L s.heap news) (hov : listOver K 101 = true)
    (U : Upd x (accObj dx its n) (accObj dx (its.push v) (n + 1)) news news') (hz : its.size ≤ sizeLine)
    (h : ∀ h', Fr h₀ L h' m → News h₀ L h' news' → Q .none { s with heap := h' }) : wpAny (model prog w) A (call (.builtin "list.append") [.ref x, v]) Q E s := by
  obtain ⟨hh, g, d, t, os⟩ := s
  refine wpAny_call (call_append (looks_mroIn (X₀.keeps F.keep) (listOver_in hov (.inl rfl))) (N _ (upd_mem U)).1 hz fun h' hx' hs' => ?_)
  obtain ⟨F', N'⟩ := upd_led F N U hs' hx'
  exact h h' F' N'
end
end Mine
namespace Mine
open PySem PySem.W PyProof.Rows PySem.Calls
theorem inst_acc {h₀ h : Heap} {L x dx : Addr} {its : Array Value} {n : Nat} {od : Obj} {news : List (Addr × Obj)} (N : News h₀ L h news) (h1 : (x, accObj dx its n) ∈ news) (h2 : (dx, od) ∈ news) : InstAt h x (accObj dx its n) 101 (some od) :=
  ⟨(N _ h1).1, rfl, rfl, (N _ h2).1⟩
end Mine
namespace Mine
open PySem PySem.W PyProof.Rows PySem.Calls
section
variable {M : Model} {A : Around} {E : Value → Shared → Prop} {s : Shared} {h₀ : Heap} {L : Addr} {news : List (Addr × Obj)} {env : Env} {pos : Pos} {first : List Value} {Q : Value → Shared → Prop} {q x : Addr} {id : String}
theorem callWith_mw0 (N : News h₀ L s.heap news) (hq : (q, mwObj id x) ∈ news) (h : wpAny M A (call (.ref q) (first ++ [])) Q E s) : wpAny M A (callWith pos (.ref q) first (backTo pos (starEach [] env)) []) Q E s :=
  callWith_of (P := fun h => h.get? q = some (mwObj id x)) rfl (fun h e => ⟨.machine, .inr (.inl rfl), (Looks.ld (part := none) e).andThen .now⟩) (evalArgs_nil3 ⟨(N _ hq).1, h⟩)
theorem callWith_bfm0 (N : News h₀ L s.heap news) (hq : (q, bfmObj id x) ∈ news) (h : wpAny M A (call (.ref q) (first ++ [])) Q E s) : wpAny M A (callWith pos (.ref q) first (backTo pos (starEach [] env)) []) Q E s :=
  callWith_of (P := fun h => h.get? q = some (bfmObj id x)) rfl (fun h e => ⟨.machine, .inr (.inl rfl), (Looks.ld (part := none) e).andThen .now⟩) (evalArgs_nil3 ⟨(N _ hq).1, h⟩)
end
end Mine
namespace Mine
open PySem PySem.W PyProof.Rows PySem.Calls
abbrev sizeDict (w : World) (tk : Tok) (t : Tok) : Obj := dictOf [⟨PyData.keyHash w.params (Str.ofString "_initial_size"), .str (Str.ofString "_initial_size") tk, .int 0 t⟩] 1
abbrev tupObj (vs : List Value) : Obj := { cls := .type "tuple", data := .seq vs.toArray }
theorem td_append : typeOf (.builtin "list.append") = pure (.type "method_descriptor") := by kernel_rfl
end Mine
end
section
open PySem PySem.W PyProof.Rows PySem.Calls
set_option maxRecDepth 100000
set_option maxHeartbeats 1000000
namespace Mine
theorem lga_canon : Manifest.canonical "list.__getattribute__" = "object.__getattribute__" := by decide +kernel
theorem lga_kind : builtinKind "list.__getattribute__" = some .slot := by decide +kernel
theorem lga_split : splitId "list.__getattribute__" = some ("list", "__getattribute__") := by decide +kernel
theorem lga_args (a b : Value) : argsOk "list.__getattribute__" ⟨[a, b], []⟩ := by unfold argsOk; kernel_rfl
theorem lga_bind (self : Value) : bindSpecial (.builtin "list.__getattribute__") self = pure (.builtin "list.__getattribute__", [self]) :=
  (Slot.of (T := "list") (name := "__getattribute__") (owner := "list") (n := "__getattribute__") (by rw [typeLookup_type, builtinLookup_eq_fast]; kernel_rfl) (by decide +kernel) (by decide +kernel) (by decide +kernel)
    (.inl (by decide +kernel)) (by rw [isSubtype_type]; kernel_rfl)).bind self
theorem lga_entry : entryFor table "list.__getattribute__" = some Builtin.«object.__getattribute__» :=
  entryFor_alias (id' := "object.__getattribute__") (by rw [fastTable_eq_tree]; kernel_rfl) (by decide +kernel) (by decide +kernel) (by rw [fastTable_eq_tree]; kernel_rfl)
/-- the looks of a class over list -/
def accGet (K : Frag) (C : Addr) : Bool := findIn K (.ref C) "__getattribute__" == some (some (.builtin "list.__getattribute__")) && findIn K (.ref C) "__getattr__" == some none
theorem accGet_of {K : Frag} {C : Addr} (h : accGet K C = true) : findIn K (.ref C) "__getattribute__" = some (some (.builtin "list.__getattribute__")) ∧ findIn K (.ref C) "__getattr__" = some none := by
  obtain ⟨a, b⟩ := Bool.and_eq_true_iff.mp h
  exact ⟨beq_iff_eq.mp a, beq_iff_eq.mp b⟩
section
variable {prog : Program} {w : World} {A : Around} {E : Value → Shared → Prop} {s : Shared} {h₀ : Heap} {L : Addr} {m : Str → Option Value} {K : Frag} {x C : Addr} {ox : Obj} {name : Str} {es : List DictEntry} {k : Nat}
theorem getm_acc {f : Value} {tf : String} {pl : Sem Bool} {Q : Value × List Value → Shared → Prop} (F : Fr h₀ L s.heap m) (X₀ : K.In h₀) (I : InstAt s.heap x ox C (some (dictOf es k))) (hg : accGet K C = true)
    (hf : findIn K (.ref C) name = some (some f)) (ht : ∀ h, K.In h → Looks (model prog w) h (typeOf f) (.type tf)) (htf : (Value.type tf != .type "function" && Value.type tf != .type "method_descriptor" && Value.type tf != .type "wrapper_descriptor") = false) (hl : getL name es = some none) (h : Q (f, [.ref x]) s) : wpAny (model prog w) A (getMethod (.ref x) name pl) Q E s := by
  have X : K.In s.heap := X₀.keeps F.keep
  have hcan := lga_canon
  unfold getMethod specialOf
  refine wpAny_bind (wpAny_bind (I.type.here ((looks_findIn X (accGet_of hg).1).here ?_)))
  dsimp only
  rw [hcan, if_neg (by decide)]
  refine wpAny_bind (wpAny_bind (I.type.here ((looks_findIn X (accGet_of hg).2).here ?_)))
  refine wpAny_bind (wpAny_bind (I.type.here ((looks_findIn X hf).here (wpAny_bind ((ht _ X).here ?_)))))
  rw [if_neg (by rw [htf]; decide)]
  refine wpAny_bind (wpAny_loadPart I.at_ ?_)
  have hd := I.dict
  cases e : ox.dict with
  | none => rw [e] at hd; exact hd.elim
  | some dx =>
    rw [e] at hd
    refine wpAny_bind (wpAny_bind (wpAny_loadPart hd ?_))
    have a : lookIn name (dictOf es k) = some none := by rw [lookIn_dict]; exact hl
    rw [nsLook_of a]
    refine wpAny_pure ?_
    exact wpAny_bind (wpAny_rule (wpAny_pure h))
theorem getm_accF {f : Addr} {pl : Sem Bool} {Q : Value × List Value → Shared → Prop} (F : Fr h₀ L s.heap m) (X₀ : K.In h₀) (I : InstAt s.heap x ox C (some (dictOf es k))) (hg : accGet K C = true)
    (hf : findIn K (.ref C) name = some (some (.ref f))) (ht : isFn K (.ref f) = true) (hl : getL name es = some none) (h : Q (.ref f, [.ref x]) s) : wpAny (model prog w) A (getMethod (.ref x) name pl) Q E s :=
  getm_acc F X₀ I hg hf (fun _ X => looks_typeIn X (beq_iff_eq.mp ht)) (by decide) hl h
theorem getm_accB {id : String} {pl : Sem Bool} {Q : Value × List Value → Shared → Prop} (F : Fr h₀ L s.heap m) (X₀ : K.In h₀) (I : InstAt s.heap x ox C (some (dictOf es k))) (hg : accGet K C = true)
    (hf : findIn K (.ref C) name = some (some (.builtin id))) (ht : typeOf (.builtin id) = pure (.type "method_descriptor")) (hl : getL name es = some none) (h : Q (.builtin id, [.ref x]) s) : wpAny (model prog w) A (getMethod (.ref x) name pl) Q E s :=
  getm_acc F X₀ I hg hf (fun _ _ => Looks.of_pure ht) (by decide) hl h
theorem get_acc {v : Value} {attr : Option Value} {expr : Bool} {Q : Value → Shared → Prop} (F : Fr h₀ L s.heap m) (X₀ : K.In h₀) (I : InstAt s.heap x ox C (some (dictOf es k))) (hg : accGet K C = true) (hov : listOver K C = true) (hh : hasDictIn K C = true)
    (ha : findIn K (.ref C) name = some attr) (hn : noGet K attr = true) (hl : getL name es = some (some v)) (hv : handedIn v = true) (h : Q v { s with toks := s.toks + 1 }) :
    wpAny (model prog w) A (getAttr (.ref x) name expr) Q E s := by
  have X : K.In s.heap := X₀.keeps F.keep
  obtain ⟨hh', g, d, t, os⟩ := s
  have L0 := I.type (M := model prog w)
  have L1 := looks_findIn (M := model prog w) X (accGet_of hg).1
  have L2 := looks_findIn (M := model prog w) X (accGet_of hg).2
  have hi : Looks (model prog w) hh' (isInstance (.ref x) (.type "list")) true := I.type.andThen (looks_mroIn X (listOver_in hov (.inl rfl)))
  have L3 := looks_find (M := model prog w) X I (findObj_own hh ha hn (by rw [lookIn_dict]; exact hl))
  unfold getAttr getAttrBy
  refine wpAny_bind (wpAny_mkText (wpAny_holding (wpAny_bind (L0.at (wpAny_bind (L1.at ?_))))))
  dsimp only
  rw [if_neg (by simp)]
  unfold getAttrByItsOwn hookBefore callGetattribute boundAndCalled
  refine wpAny_bind (L2.at ?_)
  refine wpAny_bind (wpAny_attempt (wpAny_holding ?_))
  have e1 : (expr && onTheHeap (.builtin "list.__getattribute__")) = false := by cases expr <;> rfl
  rw [e1]
  refine wpAny_bind (wpAny_of_eq (lga_bind _) ?_)
  show wpAny _ _ (call (.builtin "list.__getattribute__") [.ref x, .str name t]) _ _ _
  have hpl : plainId "list.__getattribute__" = true := by decide +kernel
  refine wpAny_call (codeAny_call_builtin hpl lga_entry ?_)
  refine @check_slot (model prog w) _ _ ⟨hh', g, d, t + 1, os⟩ "list.__getattribute__" "list" "__getattribute__" (.ref x) [.str name t] [] _ lga_kind lga_split hi (lga_args _ _) ?_
  unfold Builtin.«object.__getattribute__»
  repeat lk
  show wpAny _ _ (handedOut v) _ _ _
  rw [handedOut_of hv]; exact wpAny_pure h
end
end Mine
namespace Mine
open PySem PySem.W PyProof.Rows PySem.Calls
theorem all_lt {d : Addr} {l : List (Addr × Obj)} (h : AllLt d l) : ∀ p ∈ l, p.1 < d := by
  induction l with
  | nil => intro p hp; cases hp
  | cons q r ih =>
    intro p hp
    rcases List.mem_cons.mp hp with rfl | hp
    · exact h.1
    · exact ih h.2 p hp
end Mine
namespace Mine
open PySem PySem.W PyProof.Rows PySem.Calls
theorem led_swap {h₀ h : Heap} {L : Addr} {a b : Addr × Obj} {l : List (Addr × Obj)} (N : News h₀ L h (a :: b :: l)) : News h₀ L h (b :: a :: l) := by
  intro p hp
  refine N p ?_
  rcases List.mem_cons.mp hp with rfl | hp
  · exact .tail _ (.head _)
  · rcases List.mem_cons.mp hp with rfl | hp
    · exact .head _
    · exact .tail _ (.tail _ hp)
theorem led_tail {h₀ h : Heap} {L : Addr} {a : Addr × Obj} {l : List (Addr × Obj)} (N : News h₀ L h (a :: l)) : News h₀ L h l := fun p hp => N p (.tail _ hp)
theorem led_front {h₀ h : Heap} {L : Addr} {a b : Addr × Obj} {l l' : List (Addr × Obj)} (N : News h₀ L h l) (hs : ∀ p ∈ l', p ∈ l) : News h₀ L h l' := fun p hp => N p (hs p hp)
end Mine
namespace Mine
open PySem PySem.W PyProof.Rows PySem.Calls
theorem back_of {its : Array Value} (h : its.size ≠ 0) : its.back? = some (its.back?.getD .none) := by
  cases e : its.back? with
  | none => simp at e; subst e; simp at h
  | some v => rfl
theorem pop_nil {its : Array Value} (h : its.size = 0) : its.pop = its := by
  have : its = #[] := Array.eq_empty_of_size_eq_zero h
  subst this; rfl
end Mine
end
section
open PySem PySem.W PyProof.Rows PySem.Calls
set_option maxRecDepth 100000
set_option maxHeartbeats 1000000
namespace Mine
theorem lsi_kind : builtinKind "list.__setitem__" = some .slot := by decide +kernel
theorem lsi_split : splitId "list.__setitem__" = some ("list", "__setitem__") := by decide +kernel
theorem lsi_args (a b c : Value) : argsOk "list.__setitem__" ⟨[a, b, c], []⟩ := by unfold argsOk; kernel_rfl
theorem lsi_bind (self : Value) : bindSpecial (.builtin "list.__setitem__") self = pure (.builtin "list.__setitem__", [self]) :=
  (Slot.of (T := "list") (name := "__setitem__") (owner := "list") (n := "__setitem__") (by rw [typeLookup_type, builtinLookup_eq_fast]; kernel_rfl) (by decide +kernel) (by decide +kernel) (by decide +kernel)
    (.inl (by decide +kernel)) (by rw [isSubtype_type]; kernel_rfl)).bind self
theorem lsi_entry : entryFor table "list.__setitem__" = some Builtin.«list.__setitem__» := entryFor_of_tree (by kernel_rfl)
theorem slice_noindex : typeLookup (.type "slice") "__index__" = pure none := by rw [typeLookup_type, builtinLookup_eq_fast]; kernel_rfl
abbrev sliceN : Obj := { cls := .type "slice", data := .fields #[.none, .none, .none] }
section
variable {prog : Program} {w : World} {A : Around} {E : Value → Shared → Prop} {h : Heap} {g : Array GenState} {d : Drawn} {t : Nat} {os : OsState} {R : Result → Shared → Prop} {x sl l C : Addr}
theorem call_setslice {dd : Option Addr} {its vs : Array Value} {n n' nl : Nat} (hsub : Looks (model prog w) h (isSubtype (.ref C) (.type "list")) true) (hx : h.get? x = some ⟨.ref C, dd, .seq its n, #[]⟩) (hs : h.get? sl = some sliceN) (hl : h.get? l = some (listOf vs nl)) (hxl : x ≠ l) (hz : its.size + vs.size ≤ sizeLine)
    (hn : (if vs.size == its.size then n else n + 1) = n')
    (hR : ∀ h', h'.get? x = some ⟨.ref C, dd, .seq vs n', #[]⟩ → Heap.SameBut x h h' → R (.ok (.ret .none)) ⟨h', g, d, t, os⟩) :
    codeAny (model prog w) A (.call (.builtin "list.__setitem__") ⟨[.ref x, .ref sl, .ref l], []⟩) R ⟨h, g, d, t, os⟩ := by
  have hi : Looks (model prog w) h (isInstance (.ref x) (.type "list")) true := Looks.andThen ((Looks.ld hx).andThen .now) hsub
  refine codeAny_call_builtin (by decide +kernel) lsi_entry ?_
  refine @check_slot (model prog w) _ _ ⟨h, g, d, t, os⟩ "list.__setitem__" "list" "__setitem__" (.ref x) [.ref sl, .ref l] [] _ lsi_kind lsi_split hi (lsi_args _ _ _) ?_
  have hni := slice_noindex
  have hpz : vs.size ≤ sizeLine + 1 := by omega
  have hz1 : its.size ≤ sizeLine := by omega
  have hsr : Builtin.List.listSameRef (.ref x) (.ref l) = false := by simp [Builtin.List.listSameRef, hxl]
  have hsi : sliceIndices .none .none .none its.size = pure (0, (its.size : Int), 1) := by
    unfold sliceIndices
    simp
  have htl : Builtin.List.listTooLong (its.size + vs.size) = false := by simp [Builtin.List.listTooLong]; exact hz
  have hf : its.extract 0 (0 : Int).toNat ++ vs ++ its.extract (max 0 (its.size : Int)).toNat = vs := by simp
  unfold Builtin.«list.__setitem__»
  repeat (first | (with_reducible refine wpAny_of_eq hni ?_) | (with_reducible refine wpAny_of_eq hsi ?_) | (with_reducible refine upd_seq hx hf hn hz1 hpz ?_; intro h' hx' hs') | (with_reducible refine wpAny_letGo ?_) | simp only [hsr, htl, Bool.false_eq_true, if_false] | lk)
  exact hR _ hx' hs'
end
section
variable {prog : Program} {w : World} {A : Around} {E : Value → Shared → Prop} {s : Shared} {h₀ : Heap} {L : Addr} {m : Str → Option Value} {news news' : List (Addr × Obj)} {K : Frag} {x l dx : Addr} {its : Array Value} {n n' nl : Nat} {vs : Array Value}
theorem seqkey_no {h : Heap} {g : Array GenState} {d : Drawn} {t : Nat} {os : OsState} {C : Addr} {k : Value} {name : Str} {Q : Value → Shared → Prop} (X : K.In h) (ht : Looks (model prog w) h (typeOf (.ref x)) (.ref C)) (hov : listOver K C = true) (hQ : Q k ⟨h, g, d, t, os⟩) : wpAny (model prog w) A (sequenceKey (.ref x) k name) Q E ⟨h, g, d, t, os⟩ := by
  obtain ⟨cd, hc, hm⟩ := listOver_mro hov
  have no : ∀ T : String, T ≠ "list" → T ≠ "object" → Looks (model prog w) h (isSubtype (.ref C) (.type T)) false := fun T h1 h2 => looks_mroIn X (by unfold mroIn; rw [hc, Option.bind_some, hm]; simp [h1, h2])
  unfold sequenceKey
  refine wpAny_bind (ht.at ?_)
  have hd := no "collections.deque" (by decide) (by decide)
  repeat (first | simp only [Bool.not_false, if_true] | lk)
  exact hQ
theorem setsliceK {Q : Unit → Shared → Prop} (F : Fr h₀ L s.heap m) (X₀ : K.In h₀) (N : News h₀ L s.heap news) (hov : listOver K 101 = true) (hf : findIn K (.ref 101) "__setitem__" = some (some (.builtin "list.__setitem__"))) (hl : (l, listOf vs nl) ∈ news) (hxl : x ≠ l)
    (U : Upd x (accObj dx its n) (accObj dx vs n') news news') (hn : (if vs.size == its.size then n else n + 1) = n') (hz : its.size + vs.size ≤ sizeLine)
    (h : ∀ h', Fr h₀ L h' m → News h₀ L h' news' → Q () { s with heap := h' }) :
    wpAny (model prog w) A (setItem (.ref x) (.ref s.heap.objs.size) (.ref l)) Q E { s with heap := s.heap.push sliceN } := by
  have X : K.In s.heap := X₀.keeps F.keep
  obtain ⟨hh, g, d, t, os⟩ := s
  have k : ∀ b o, hh.get? b = some o → (hh.push sliceN).get? b = some o := fun b o e => Heap.get?_push_of_some _ e
  have X' : K.In (hh.push sliceN) := X.keeps k
  have hx : (hh.push sliceN).get? x = some (accObj dx its n) := k _ _ (N _ (upd_mem U)).1
  have ht : Looks (model prog w) (hh.push sliceN) (typeOf (.ref x)) (.ref 101) := (Looks.ld hx).andThen .now
  have hlk := looks_findIn (M := model prog w) X' hf
  unfold setItem callSpecial? specialOf
  refine wpAny_holding (wpAny_bind (seqkey_no X' ht hov ?_))
  refine wpAny_bind (wpAny_bind (wpAny_bind (ht.at (hlk.at ?_))))
  dsimp only
  refine wpAny_holding ?_
  rw [lsi_bind]
  refine wpAny_bind (wpAny_pure (wpAny_bind ?_))
  show wpAny _ _ (call (.builtin "list.__setitem__") [.ref x, .ref hh.objs.size, .ref l]) _ _ _
  refine wpAny_call (call_setslice (looks_mroIn X' (listOver_in hov (.inl rfl))) hx (Heap.get?_push_size _ rfl) (k _ _ (N _ hl).1) hxl hz hn fun h' hx' hs' => ?_)
  have N1 : News h₀ L (hh.push sliceN) news := fun p hp => ⟨k _ _ (N p hp).1, (N p hp).2⟩
  obtain ⟨F', N'⟩ := upd_led (F.push sliceN) N1 U hs' hx'
  exact wpAny_pure (wpAny_pure (h h' F' N'))
end
end Mine
end
section
open PySem PySem.W PyProof.Rows
namespace Mine
/-- a piece of the path: no slash in it, three signs at most -/
def Piece (x : Str) : Prop := (47 ∉ x.cps) ∧ x.length ≤ 3
theorem pc_up : Piece (Str.ofString "..") := ⟨by decide +kernel, by decide +kernel⟩
theorem pc_dot : Piece (Str.ofString ".") := ⟨by decide +kernel, by decide +kernel⟩
theorem pc_nil : Piece (Str.ofString "") := ⟨by decide +kernel, by decide +kernel⟩
theorem pc_two {a b : Int} (ha : 97 ≤ a) (hb : 128 ≤ b) : Piece ((⟨#[a.toNat]⟩ : Str) ++ ⟨#[b.toNat]⟩) := by
  show (47 ∉ (#[a.toNat] ++ #[b.toNat] : Array Nat)) ∧ (#[a.toNat] ++ #[b.toNat] : Array Nat).size ≤ 3
  simp
  omega
theorem mem_reps (c k : Nat) (x : Nat) (acc : Array Nat) : x ∈ (List.replicate k #[c]).foldl (· ++ ·) acc → x ∈ acc ∨ x = c := by
  induction k generalizing acc with
  | zero => intro h; exact .inl h
  | succ k ih =>
    intro h
    rw [List.replicate_succ, List.foldl_cons] at h
    rcases ih _ h with h | h
    · simp at h; exact h
    · exact .inr h
theorem pc_mul {a i : Int} (ha : 97 ≤ a) (hi : i ≤ 3) : Piece (Txt.mul ⟨#[a.toNat]⟩ i) := by
  refine ⟨?_, len_mul_one (N := 3) rfl (by omega)⟩
  unfold Txt.mul
  (repeat' split)
  · exact fun h => nomatch h
  · simp; omega
  · intro h
    rcases mem_reps _ _ _ _ h with h | h
    · simp at h
    · omega
theorem pc_hi (a : Int) (h4 : Int.fmod a 6 ≠ 4) (h5 : Int.fmod a 6 ≠ 5) : Int.fmod a 6 ≤ 3 := by
  have := fmod_hi a (n := 6) (by decide)
  omega
theorem pc_let (a : Int) : 97 ≤ 97 + Int.fmod a 26 := by have := fmod_lo a (n := 26) (by decide); omega
theorem pc_sign (a : Int) : 128 ≤ 128 + Int.fmod a 50000 := by have := fmod_lo a (n := 50000) (by decide); omega
theorem md_lo (a : Int) : -(2 ^ 63 : Int) ≤ Int.fmod a 6 := by have := fmod_lo a (n := 6) (by decide); omega
theorem md_hi (a : Int) : Int.fmod a 6 ≤ ((1048576 : Nat) : Int) := by have := fmod_hi a (n := 6) (by decide); omega
end Mine
end
section
open PySem PySem.W PyProof.Rows
set_option maxRecDepth 100000
namespace Mine
theorem int_mem {vs : List Value} {ns : List Int} (h : IntsAre vs ns) : ∀ {v : Value}, v ∈ vs → ∃ i t, v = .int i t := by
  induction h with
  | nil => exact fun h => nomatch h
  | cons i t _ ih =>
    intro v h
    rcases List.mem_cons.mp h with rfl | h
    · exact ⟨_, _, rfl⟩
    · exact ih h
theorem menu_item {prog : Program} {w : World} {A : Around} {E : Value → Shared → Prop} {s : Shared} {h₀ : Heap} {L : Addr} {news : List (Addr × Obj)} {value slice : PySem.Expr} {l : Addr} {vs : List Value} {n : Nat} {k : Int} {u : Tok} {Q : Value → Shared → Prop}
    (N : News h₀ L s.heap news) (hl : (l, listOf vs.toArray n) ∈ news) (h0 : 0 ≤ k) (h8 : k < vs.length) {ns : List Int} (hv : IntsAre vs ns) (hz : vs.length ≤ 1000)
    (hs : subscripted slice false (.ref l) (.int k u) = operate [.ref l, .int k u] (getItem (.ref l) (.int k u))) (h : ∀ i t, Q (.int i t) s) :
    wpAny (model prog w) A (subscriptTail value slice (.ref l) (.int k u)) Q E s := by
  have hI : s.heap.IsList l vs.toArray := News.isList N hl
  have hk : k.toNat < vs.length := by omega
  obtain ⟨i, t, e⟩ := int_mem hv (List.getElem_mem hk)
  refine tail_any hI.typeIs slot_list_getitem.lookup (wpAny_getItem_list hI h0 (by omega) (x := .int i t) ?_ (h i t)) hs
  rw [List.getElem?_toArray, List.getElem?_eq_getElem hk, e]
end Mine
end
section
open PySem PySem.W PyProof.Rows
set_option maxRecDepth 100000
set_option maxHeartbeats 8000000
namespace Mine
local macro_rules | `(tactic| k_mem) => `(tactic| assumption)
local macro_rules | `(tactic| k_all) => `(tactic| first | assumption | exact allLt_ne (by assumption) | exact lt_ne (by assumption) | exact allLt_ne (And.right (by assumption)))
theorem kept_ok : ∀ (w : World) (mean : ExcName → Option Value) (mg mb : Str → Option Value)
   (dp un : Nat) (gd : Option (List Code)) (cn : Str) (cs : Scope) (a : Addr) (ccd : Value) (cl : List (Str × Addr)) (outer : List Env) (A₀ : Around) (base h₀ : Heap) (L : Addr) (m : Str → Option Value) (news : List (Addr × Obj)) (s : Shared)
    (Q E : Value → Shared → Prop) (pl : Addr) (vs : List Value) (xs : List Str) (nn : Nat)
   (B : Below A₀ base outer h₀) (F : Fr h₀ L s.heap m) (X : (hd.heap_39 w.params).In h₀) (N : News h₀ L s.heap news) (T : Top p0 loose0 mean mg mb h₀) (hk : cs.kind = .function)
   (hd : dp + 1 < recursionLimit) (hu : un + 8 < cLine) 
   (hpl : (pl, listOf vs.toArray nn) ∈ news) (hvs : StrsAre vs xs) (hlen : xs.length ≤ 100)
   (hret : ∀ (r : Addr) (us : List Value) (nu : Nat) (h' : Heap) (tk' : Nat), StrsAre us (keptAll xs).1 → Fr h₀ L h' m → News h₀ L h' ((r, listOf us.toArray nu) :: news) → (∀ p ∈ news, p.1 < r) → Q (.ref r) { s with heap := h', toks := tk' }),
   wpAny (model PySem.Challenge.rw_op0008_01.row.prog w) (ktrTop dp un gd cn cs L a ccd cl outer) (call (.ref 134) [.ref pl]) Q E s := by
  w_top off
  k_fill
  intro w mean mg mb dp un gd cn cs a ccd cl outer A₀ base h₀ L m news s Q E pl vs xs nn B F X N T hk hd hu hpl hvs hlen hret
  refine wpAny_call ?_
  k_dflt cell_enter
  repeat' (first
    | (first
      | ((with_reducible show wpAny _ _ (call (Value.builtin "list.insert") _) _ _ _); k_here; (with_reducible show wpAny _ _ (call (Value.builtin _) [Value.ref _, Value.int 0 _, _]) _ _ _); k_dflt (refine' kl_insert (its := List.toArray _) ?F ?N ?f ?e ?U ?z ?_; (case F => k_asm); (case N => k_asm); (case U => k_upd); (case f => rfl); (case e => exact kl_ins_zero _ _); (case z => (simp only [List.length_reverse] at *; rw [sizeLine_eq]; show List.length _ ≤ _; omega))); kl_rest)
      | ((with_reducible show wpAny _ _ (pyIter (Value.ref _)) _ _ _); k_here; k_dflt (refine' kept_loop (t0 := _) ?F ?N ?hh ?vs ?ne ?al ?x ?db ?tu ?dn; (case F => k_asm); (case N => k_asm); (case hh => exact rfl); (case vs => exact strs_rev (by assumption)); (case ne => k_ne); (case al => k_all); (case x => decide); (case db => exact rfl)); (case' tu => intro i9 p9 t9 us9 nu9 d9 td9 h9 tk9 own9 hp9 hus9 hd9 hul9 hne9 hall9 hoff9 F9 N9); (case' dn => intro us9 nu9 d9 td9 u9 h9 tk9 hus9 F9 N9))
      | ((with_reducible show wpAny _ _ (subscriptTail _ _ (Value.ref _) (Value.ref _)) _ _ _); k_here; (with_reducible show wpAny _ _ (subscriptTail _ (PySem.Expr.Slice none none (some _) _) (Value.ref _) (Value.ref _)) _ _ _); k_dflt (refine' krv_lit ?F ?N ?l ?k ?e ?_ ?s ?t ?z; (case F => k_asm); (case N => k_asm); (case l => kmk_list); (case k => exact IsPart.int _ _); (case e => exact rfl); (case s => with_unfolding_all rfl); (case t => kmk_pure); (case z => (refine my_size (by assumption) ?_; omega))); intro D' h' F' N' l1; (try k_lt l1); (try k_sweep))
      | ((with_reducible show wpAny _ _ (exec (Stmt.For _ _ _ _ _) _) _ _ _); k_here; (rename Fr _ _ _ _ => lF'); (with_unfolding_all refine' For_invVF lF' ?k1 ?k2 ?_; (case k1 => exact rfl); (case k2 => exact rfl); k_whole)))
    | (k_unfold; (try dsimp only)) | (k_end; kc_close) | walk1 | (dsimp only; walk1) | (leave1; (try dsimp only)) | fail "no step")
  · exact hret _ _ _ _ _ (by assumption) (by k_asm) (cb_drop (by k_asm) (fun p hp => List.mem_cons_of_mem _ hp)) (by assumption)
  all_goals first
   | (refine' kept_end ?F ?N ?hp ?ho ?hu ?hd ?hm; (case F => k_asm); (case N => k_asm); (case hp => assumption); (case ho => assumption); (case hm => exact kept_m1 (by decide)); (case hu => (rw [kstep_up (by assumption)]; assumption)); (case hd => (rw [kstep_up (by assumption)]; (try dsimp only); omega)))
   | (refine' kept_end ?F ?N ?hp ?ho ?hu ?hd ?hm; (case F => k_asm); (case N => k_asm); (case hp => assumption); (case ho => assumption); (case hm => exact kept_m1 (by decide)); (case hu => (rw [kstep_debt (by assumption) (by assumption) (by assumption) (by assumption) (by assumption)]; assumption)); (case hd => (rw [kstep_debt (by assumption) (by assumption) (by assumption) (by assumption) (by assumption)]; (try dsimp only); omega)))
   | (refine' kept_end ?F ?N ?hp ?ho ?hu ?hd ?hm; (case F => k_asm); (case N => k_asm); (case hp => assumption); (case ho => assumption); (case hm => exact rfl); (case hu => (rw [kstep_name (by assumption) (by assumption) (by assumption) (by assumption) (by assumption)]; exact .cons _ _ (by assumption))); (case hd => (rw [kstep_name (by assumption) (by assumption) (by assumption) (by assumption) (by assumption)]; (try dsimp only); omega)))
   | (refine' kept_end ?F ?N ?hp ?ho ?hu ?hd ?hm; (case F => k_asm); (case N => k_asm); (case hp => assumption); (case ho => assumption); (case hm => exact rfl); (case hu => (rw [kstep_dot (by assumption) (by assumption)]; assumption)); (case hd => (rw [kstep_dot (by assumption) (by assumption)]; (try dsimp only); omega)))
   | (refine' kept_end ?F ?N ?hp ?ho ?hu ?hd ?hm; (case F => k_asm); (case N => k_asm); (case hp => assumption); (case ho => assumption); (case hm => exact rfl); (case hu => (rw [kstep_nil (by assumption) (by assumption)]; assumption)); (case hd => (rw [kstep_nil (by assumption) (by assumption)]; (try dsimp only); omega)))
end Mine
end
section
open PySem PySem.W PyProof.Rows Mine
local macro_rules | `(tactic| ktr_room) => `(tactic| k_dflt (first | exact room2 (by assumption) (by decide) | exact room1 (by assumption) (by decide) | exact room3 (by assumption) (by decide)))
local macro_rules | `(tactic| ktr_units) => `(tactic| k_dflt (first | exact room2 (by assumption) (by decide) | exact room1 (by assumption) (by decide) | exact room3 (by assumption) (by decide)))
local macro_rules | `(tactic| units_room) => `(tactic| k_dflt (first | exact room2 (by assumption) (by decide) | exact room1 (by assumption) (by decide) | exact room3 (by assumption) (by decide)))
local macro_rules | `(tactic| k_all) => `(tactic| first | assumption | exact allLt_ne (by assumption) | exact lt_ne (by assumption) | exact allLt_ne (And.right (by assumption)))
local macro_rules | `(tactic| k_inst) => `(tactic| (refine' inst_acc ?N ?h1 ?h2; (case N => k_asm); (case h1 => k_mem); (case h2 => k_mem)))
section
open PySem PySem.W PyProof.Rows
set_option maxRecDepth 100000
set_option maxHeartbeats 8000000
namespace Mine
local macro_rules | `(tactic| k_mem) => `(tactic| first | assumption | exact List.mem_append.mpr (.inr (by k_mem)) | exact List.mem_append.mpr (.inl (by k_mem)))

section
theorem piece_ok : ∀ (k part : Int) (t1 t2 : Tok), ∀ (w : World) (mean : ExcName → Option Value) (mg mb : Str → Option Value)
   (dp un : Nat) (gd : Option (List Code)) (cn : Str) (cs : Scope) (a : Addr) (ccd : Value) (cl : List (Str × Addr)) (outer : List Env) (A₀ : Around) (base h₀ : Heap) (L : Addr) (m : Str → Option Value) (news : List (Addr × Obj)) (s : Shared)
    (Q E : Value → Shared → Prop)
   (B : Below A₀ base outer h₀) (F : Fr h₀ L s.heap m) (X : (hd.heap_39 w.params).In h₀) (N : News h₀ L s.heap news) (T : Top p0 loose0 mean mg mb h₀) (hk : cs.kind = .function) (hd : dp + 20 < recursionLimit) (hu : un + 200 < cLine) (hk0 : 0 ≤ k) (hk8 : k < 8)
   (hret : ∀ (x : Str) (t : Tok) (h' : Heap) (tk' : Nat), Piece x → Fr h₀ L h' m → News h₀ L h' news → Q (.str x t) { s with heap := h', toks := tk' }),
   wpAny (model PySem.Challenge.rw_op0008_01.row.prog w) (ktrTop dp un gd cn cs L a ccd cl outer) (call (.ref 127) [.int k t1, .int part t2]) Q E s := by
  w_top off
  k_fill
  intro k part t1 t2 w mean mg mb dp un gd cn cs a ccd cl outer A₀ base h₀ L m news s Q E B F X N T hk hd hu hk0 hk8 hret
  refine wpAny_call ?_
  k_dflt ((refine' code_def ?k1 ?k2 ?k3 ?k4 ?k5 ?kA ?kF ?kK ?k6 ?k7 ?k8 ?k9 ?kB ?_ ?c2 ?c3 ?c4 ?c5; (case kA => exact rfl); (case kF => exact rfl); (case kK => first | exact rfl | assumption); (case k1 => k_asm); (case k2 => k_asm); (case k3 => k_asm); (case k4 => k_asm); (case k5 => k_asm); (case k6 => k_is); (case k7 => k_is); (case k8 => ktr_room); (case k9 => first | exact BindsTo.of_eq rfl | exact binds_K (by k_in) rfl (by k_is) rfl rfl rfl); (case c5 => decide); (case kB => exact locs rfl); (case c2 => exact rfl); (case c3 => exact rfl); (case c4 => exact rfl); k_whole; intro g' L' h' FG' F' N' B' X' T'; (try dsimp only); (try k_lift B'); (try k_fold)))
  repeat' (first
    | (first
      | ((with_reducible show wpAny _ _ (subscriptTail _ _ (Value.ref _) (Value.int _ _)) _ _ _); k_here; k_dflt (refine' menu_item (vs := _) ?F ?hl ?h0 ?h8 ?hv ?hz ?hs ?_; (case F => k_asm); (case hl => exact List.mem_cons_self); (case h0 => assumption); (case h8 => assumption); (case hv => exact .cons _ _ (.cons _ _ (.cons _ _ (.cons _ _ (.cons _ _ (.cons _ _ (.cons _ _ (.cons _ _ .nil)))))))); (case hz => exact Nat.le_of_ble_eq_true rfl); (case hs => with_unfolding_all rfl)); intro i9 t9)
      | ((with_reducible show wpAny _ _ (binaryOp Operator.Mult (Value.str _ _) (Value.int _ _)) _ _ _); k_here; k_dflt (refine' KXi.mul (n := 1) ?h1 ?h2 ?h3 ?h4 ?_; (case h1 => exact rfl); (case h2 => decide); (case h3 => exact md_lo _); (case h4 => exact md_hi _)); intro _ _ kxiZ kxiN))
    | (k_unfold; (try dsimp only)) | (k_end; kc_close) | walk1 | (dsimp only; walk1) | (leave1; (try dsimp only)) | fail "no step")
  all_goals (refine' hret _ _ _ _ ?P ?F ?N; (case F => k_asm); (case N => exact led_tail (by k_asm)); (case P => first | exact pc_up | exact pc_dot | exact pc_nil | exact pc_two (pc_let _) (pc_sign _) | exact pc_mul (pc_let _) (pc_hi _ (by assumption) (by assumption))))
end
end Mine
end
section
open PySem PySem.W PyProof.Rows
set_option maxRecDepth 100000
set_option maxHeartbeats 1000000
namespace Mine
def CtxNone (h : Heap) (u : Addr) : Prop := ∃ o vs, h.get? u = some o ∧ o.data = .fields vs ∧ vs[2]? = some .none
def CtxTo (h : Heap) (e u : Addr) : Prop := ∃ o vs, h.get? e = some o ∧ o.data = .fields vs ∧ vs[2]? = some (.ref u)
/-- what is being handled: nothing, an exception without a context, or one behind which another stands -/
inductive Hv where
  | no
  | one (u : Addr)
  | two (e u : Addr)
def Hv.val : Hv → Option Value
  | .no => none
  | .one u => some (.ref u)
  | .two e _ => some (.ref e)
def Hv.addrs : Hv → List Addr
  | .no => []
  | .one u => [u]
  | .two e u => [e, u]
def Hv.On : Hv → Heap → Prop
  | .no, _ => True
  | .one u, h => CtxNone h u
  | .two e u, h => CtxTo h e u ∧ CtxNone h u ∧ e ≠ u
theorem CtxNone.keep {h h' : Heap} {u : Addr} (x : CtxNone h u) (k : ∀ o, h.get? u = some o → h'.get? u = some o) : CtxNone h' u := by
  obtain ⟨o, vs, a, b, c⟩ := x; exact ⟨o, vs, k o a, b, c⟩
theorem CtxTo.keep {h h' : Heap} {e u : Addr} (x : CtxTo h e u) (k : ∀ o, h.get? e = some o → h'.get? e = some o) : CtxTo h' e u := by
  obtain ⟨o, vs, a, b, c⟩ := x; exact ⟨o, vs, k o a, b, c⟩
theorem Hv.On.keep {H : Hv} {h h' : Heap} (x : H.On h) (k : ∀ b ∈ H.addrs, ∀ o, h.get? b = some o → h'.get? b = some o) : H.On h' := by
  cases H with
  | no => trivial
  | one u => exact CtxNone.keep x (k u (.head _))
  | two e u => exact ⟨x.1.keep (k e (.head _)), x.2.1.keep (k u (.tail _ (.head _))), x.2.2⟩
theorem Hv.On.lt {H : Hv} {h : Heap} (x : H.On h) : ∀ b ∈ H.addrs, ∃ o, h.get? b = some o := by
  cases H with
  | no => intro b hb; cases hb
  | one u => intro b hb; obtain rfl := List.mem_singleton.mp hb; obtain ⟨o, _, h1, _⟩ := x; exact ⟨o, h1⟩
  | two e u =>
    intro b hb
    rcases List.mem_cons.mp hb with rfl | hb
    · obtain ⟨⟨o, _, h1, _⟩, _⟩ := x; exact ⟨o, h1⟩
    · obtain rfl := List.mem_singleton.mp hb; obtain ⟨_, ⟨o, _, h1, _⟩, _⟩ := x; exact ⟨o, h1⟩
section
variable {prog : Program} {w : World} {A : Around} {E : Value → Shared → Prop} {s : Shared}
theorem entry_unchain : entryFor table "proto.unchain" = some Builtin.«proto.unchain» := by
  first | rfl | kernel_rfl
theorem unch_one {A : Around} {v slow : Value} {tg : Bool} {u : Addr} {R : Result → Shared → Prop} (hc : CtxNone s.heap u) (h : R (.ok (.ret .none)) s) :
    codeAny (model prog w) A (.builtin "proto.unchain" ⟨[v, .ref u, slow, .bool tg], []⟩) R s := by
  obtain ⟨o, vs, h1, h2, h3⟩ := hc
  refine codeAny_builtin entry_unchain ?_
  unfold Builtin.«proto.unchain»
  show wpAny _ _ (field (.ref u) 2 >>= _) _ _ s
  refine wpAny_bind (wpAny_field h1 h2 h3 ?_)
  exact wpAny_pure h
theorem unch_two {A : Around} {e u a : Addr} {R : Result → Shared → Prop} (hc : CtxTo s.heap e u) (hu : CtxNone s.heap u) (heu : e ≠ u) (ha : a ≠ u) (h : R (.ok (.ret .none)) s) :
    codeAny (model prog w) A (.builtin "proto.unchain" ⟨[.ref a, .ref e, .ref e, .bool false], []⟩) R s := by
  obtain ⟨o, vs, h1, h2, h3⟩ := hc
  refine codeAny_builtin entry_unchain ?_
  unfold Builtin.«proto.unchain»
  show wpAny _ _ (field (.ref e) 2 >>= _) _ _ s
  refine wpAny_bind (wpAny_field h1 h2 h3 ?_)
  have n1 : (Value.ref u == Value.ref a) = false := by
    simp only [beq_eq_false_iff_ne, ne_eq, Value.ref.injEq]; exact fun q => ha q.symm
  have n2 : (Value.ref u == Value.ref e) = false := by
    simp only [beq_eq_false_iff_ne, ne_eq, Value.ref.injEq]; exact fun q => heu q.symm
  simp only [show (Value.ref u == Value.none) = false from rfl, n1, n2, Bool.false_eq_true, if_false]
  refine wpAny_bind (wpAny_pure ?_)
  exact wpAny_pure ⟨by first | rfl | kernel_rfl | decide +kernel, unch_one hu h⟩
theorem raise_hv {α : Type} {H : Hv} {a : Addr} {o : Obj} {vs : Array Value} {Q : α → Shared → Prop} (hh : A.handled = H.val) (hc : H.On s.heap) (ha : a ∉ H.addrs) (ho : s.heap.get? a = some o) (hd : o.data = .fields vs) (hsz : 2 < vs.size)
    (h : ∀ h' vs', Heap.SameBut a s.heap h' → h'.get? a = some { o with data := .fields vs' } → (vs' = match H.val with | some x => vs.setIfInBounds 2 x | none => vs) → E (.ref a) { s with heap := h' }) :
    wpAny (model prog w) A (raiseNew (.ref a) : Sem α) Q E s := by
  have hset : ∀ x : Value, (s.heap.update a (Obj.mapFields (·.setIfInBounds 2 x))).get? a = some { o with data := .fields (vs.setIfInBounds 2 x) } := by
    intro x
    have e := Heap.get?_update_self (h := s.heap) (Obj.mapFields (·.setIfInBounds 2 x)) ho (Obj.isFreed_of_fields (Obj.data_mapFields hd _))
    rw [e]
    obtain ⟨c, d, dt, sl⟩ := o; subst hd; rfl
  have wr : ∀ x : Value, H.val = some x → wpAny (model prog w) A (updateField a 2 x >>= fun _ => (throw (Value.ref a) : Sem α)) Q E s := by
    intro x hx
    simp only [updateField]
    refine wpAny_bind (wpAny_bind (wpAny_load ho ?_))
    rw [hd]
    show wpAny _ A (if 2 < vs.size then _ else _) _ E s
    rw [if_pos hsz]
    exact wpAny_update ho (wpAny_throw (h _ _ (Heap.SameBut.update ..) (hset x) (by rw [hx])))
  unfold raiseNew
  refine wpAny_bind (wpAny_handled ?_)
  rw [hh]
  cases H with
  | no =>
    refine wpAny_throw (h _ vs (Heap.SameBut.refl ..) ?_ rfl)
    rw [ho]; obtain ⟨c, d, dt, sl⟩ := o; subst hd; rfl
  | one u =>
    have n1 : (Value.ref u != Value.ref a) = true := by
      simp only [bne_iff_ne, ne_eq, Value.ref.injEq]; exact fun q => ha (q ▸ .head _)
    show wpAny _ A (if (Value.ref u != Value.ref a) = true then _ else _) _ E s
    rw [if_pos n1]
    refine wpAny_bind (wpAny_holding (wpAny_runValue (unch_one hc ?_)))
    exact wr _ rfl
  | two e u =>
    have n1 : (Value.ref e != Value.ref a) = true := by
      simp only [bne_iff_ne, ne_eq, Value.ref.injEq]; exact fun q => ha (q ▸ .head _)
    show wpAny _ A (if (Value.ref e != Value.ref a) = true then _ else _) _ E s
    rw [if_pos n1]
    refine wpAny_bind (wpAny_holding (wpAny_runValue (unch_two hc.1 hc.2.1 hc.2.2 (fun q => ha (q ▸ .tail _ (.head _))) ?_)))
    exact wr _ rfl
end
end Mine
end
section
open PySem PySem.W PyProof.Rows
set_option maxRecDepth 100000
set_option maxHeartbeats 1000000
namespace Mine
/-- what is known of an exception's class and members, whatever its trace -/
structure Fits (P : Value → Array Value → Prop) : Prop where
  trace : ∀ c vs x, P c vs → P c (vs.setIfInBounds 1 x)
/-- an exception with its trace's head, fl: where it flies -/
def TrAt (P : Value → Array Value → Prop) (h base : Heap) (e : Addr) (fl : Value) : Prop :=
  ∃ oe vs T oT ts, h.get? e = some oe ∧ P oe.cls vs ∧ oe.data = .fields vs ∧ vs[1]? = some (.ref T) ∧ base.get? T = none ∧ T ≠ e ∧ h.get? T = some oT ∧ oT.data = .fields ts ∧ ts[3]? = some fl
/-- the exception e stands, marked fl; the base stays, the frames of l too -/
structure OnWay (P : Value → Array Value → Prop) (base : Heap) (l : List Env) (e : Addr) (fl : Value) (h : Heap) : Prop where
  stays : base.StaysIn h
  new : base.get? e = none
  frames : h.FunFrames base l
  tr : TrAt P h base e fl
section
variable {M : Model} {A : Around} {E : Value → Shared → Prop} {s : Shared} {P : Value → Array Value → Prop}
theorem entryP (hP : Fits P) {base : Heap} {env : Env} {outer : List Env} {L e : Addr} {oe : Obj} {vs : Array Value} {head : Value} {hadNext : Bool} {Q : Unit → Shared → Prop}
    (hfr : A.frames = some (env :: outer)) (hl : s.heap.FunFrames base (env :: outer)) (hf : env.frame = some L)
    (he : s.heap.get? e = some oe) (hkb : base.StaysIn s.heap) (hen : base.get? e = none) (hd : oe.data = .fields vs) (hsz : 1 < vs.size) (h0 : P oe.cls vs)
    (h : ∀ h', OnWay P base (env :: outer) e (rawInt L) h' → s.heap.UpToSlots h' → Q () { s with heap := h' }) :
    wpAny M A (do let a ← frameOf env; let pl ← entryPlaceOf L hadNext; let b ← EntryCells.newEntry head a .none (rawInt L) .none pl; setField (.ref e) 1 b) Q E s := by
  have hene : e ∉ (env :: outer).filterMap (·.frame) := fun hm => by
    obtain ⟨_, o, ho, hnf⟩ := hl.mem hm
    rw [he] at ho; cases ho; exact hnf vs hd
  refine wpAny_bind (wpAny_frameOf_fun hfr hl hf fun h₁ hs₁ => ?_)
  refine wpAny_bind (wpAny_entryPlaceOf fun pl hpl => ?_)
  unfold EntryCells.newEntry newFields
  refine wpAny_bind (wpAny_newObj_type ?_ (hpl.sizeOk5 _ _ _ _ _))
  generalize hT : ({ cls := .type "traceback", dict := none, data := .fields ([head, .ref L, .none, rawInt L, .none] ++ (if pl.isEmpty then List.replicate 6 Value.none else pl)).toArray } : Obj) = oT
  have he₁ : h₁.get? e = some oe := (hs₁.2.1 e hene).trans he
  have kb₁ : base.StaysIn h₁ := fun b o hbo => (hs₁.2.1 b fun hm => by rw [(hl.mem hm).1] at hbo; cases hbo).trans (hkb b o hbo)
  have he₂ := Heap.get?_push_of_some (h := h₁) oT he₁
  refine wpAny_setField he₂ hd hsz (h _ ?_ ?_)
  all_goals
    have hTe : h₁.objs.size ≠ e := Nat.ne_of_gt (Heap.lt_size he₁)
    have hd₃ := Obj.data_mapFields hd (·.setIfInBounds 1 (Value.ref h₁.objs.size))
    have keep : ∀ b o, b ≠ e → h₁.get? b = some o → ((h₁.push oT).update e (Obj.mapFields (·.setIfInBounds 1 (Value.ref h₁.objs.size)))).get? b = some o := fun b o hbe hb => by
      rw [Heap.get?_update_other _ _ (Ne.symm hbe)]
      exact Heap.get?_push_of_some _ hb
    have noRecord : ∀ b o, s.heap.get? b = some o → (∀ vs, o.data ≠ .fields vs) → b ≠ e := fun b o hb hnf q => by
      rw [q, he] at hb; cases hb; exact hnf vs hd
  · refine ⟨fun b o hbo => keep b o (fun q => by rw [q, hen] at hbo; cases hbo) (kb₁ b o hbo), hen, hl.of_keeps fun b o hb hnf => ?_, ?_⟩
    · obtain ⟨sl, hs⟩ := hs₁.2.2 b o hb
      exact ⟨_, keep b _ (noRecord b o hb hnf) hs, rfl⟩
    · have he₃ := Heap.get?_update_self (Obj.mapFields (·.setIfInBounds 1 (Value.ref h₁.objs.size))) he₂ (Obj.isFreed_of_fields hd₃)
      have hT₃ := (Heap.get?_update_other (h₁.push oT) (Obj.mapFields (·.setIfInBounds 1 (Value.ref h₁.objs.size))) (Ne.symm hTe)).trans (Heap.get?_push_size h₁ (by rw [← hT]; rfl))
      refine ⟨_, _, h₁.objs.size, _, _, he₃, ?_, hd₃, by simp [hsz], kb₁.fresh, hTe, hT₃, (by rw [← hT]), by first | (simp; done) | (rcases hpl with rfl | ⟨_, _, _, _, _, _, _, rfl⟩ <;> simp)⟩
      rw [Obj.cls_mapFields]
      exact hP.trace _ _ _ h0
  · intro b o hb hnf
    obtain ⟨sl, hs⟩ := hs₁.2.2 b o hb
    exact ⟨sl, keep b _ (noRecord b o hb hnf) hs⟩
/-- an exception without a trace is noted -/
theorem note_firstP (hP : Fits P) {base : Heap} {env : Env} {outer : List Env} {L e : Addr} {oe : Obj} {vs : Array Value} {Q : Unit → Shared → Prop}
    (hfr : A.frames = some (env :: outer)) (hl : s.heap.FunFrames base (env :: outer)) (hf : env.frame = some L)
    (he : s.heap.get? e = some oe) (hkb : base.StaysIn s.heap) (hen : base.get? e = none) (hd : oe.data = .fields vs) (h1 : vs[1]? = some .none) (h0 : P oe.cls vs)
    (h : ∀ h', OnWay P base (env :: outer) e (rawInt L) h' → s.heap.UpToSlots h' → Q () { s with heap := h' }) : wpAny M A (noteFrame (.ref e) env) Q E s := by
  unfold noteFrame
  simp only [hf]
  refine wpAny_bind (wpAny_field he hd h1 ?_)
  rw [if_neg (by decide)]
  exact entryP hP hfr hl hf he hkb hen hd (Array.getElem?_eq_some_iff.mp h1).1 h0 h
/-- a flying one is noted in the next frame -/
theorem note_onP (hP : Fits P) {base : Heap} {env : Env} {outer : List Env} {L e : Addr} {Q : Unit → Shared → Prop}
    (hfr : A.frames = some (env :: outer)) (hf : env.frame = some L) (x : OnWay P base (env :: outer) e .none s.heap)
    (h : ∀ h', OnWay P base (env :: outer) e (rawInt L) h' → s.heap.UpToSlots h' → Q () { s with heap := h' }) : wpAny M A (noteFrame (.ref e) env) Q E s := by
  obtain ⟨hkb, hen, hl, oe, vs, T, oT, ts, he, h0, hd, h1, hnT, hTe, hT, hdT, h3⟩ := x
  unfold noteFrame
  simp only [hf]
  refine wpAny_bind (wpAny_field he hd h1 ?_)
  rw [if_pos (show (Value.ref T != Value.none) = true from by simp)]
  refine wpAny_bind (wpAny_field hT hdT h3 ?_)
  rw [if_neg (show ¬ ((Value.none == rawInt L) = true) from by simp [rawInt])]
  refine wpAny_bind (wpAny_setField hT hdT (Array.getElem?_eq_some_iff.mp h3).1 ?_)
  have other : ∀ b, b ≠ T → (s.heap.update T (Obj.mapFields (·.setIfInBounds 3 Value.none))).get? b = s.heap.get? b := fun b hb => Heap.get?_update_other _ _ (Ne.symm hb)
  have noRecord : ∀ b o, s.heap.get? b = some o → (∀ vs, o.data ≠ .fields vs) → b ≠ T := fun b o hb hnf q => by
    rw [q, hT] at hb; cases hb; exact hnf ts hdT
  refine entryP hP hfr (hl.of_keeps fun b o hb hnf => ⟨o, (other b (noRecord b o hb hnf)).trans hb, rfl⟩) hf ((other e (Ne.symm hTe)).trans he)
    (fun b o hbo => (other b fun q => by rw [q, hnT] at hbo; cases hbo).trans (hkb b o hbo)) hen hd (Array.getElem?_eq_some_iff.mp h1).1 h0
    fun h' x1 x4 => h h' x1 fun b o hb hnf => x4 b o ((other b (noRecord b o hb hnf)).trans hb) hnf
theorem note_againP {base : Heap} {env : Env} {l : List Env} {L e : Addr} {Q : Unit → Shared → Prop} (hf : env.frame = some L) (x : OnWay P base l e (rawInt L) s.heap) (h : Q () s) :
    wpAny M A (noteFrame (.ref e) env) Q E s := by
  obtain ⟨_, _, _, oe, vs, T, oT, ts, he, h0, hd, h1, hnT, hTe, hT, hdT, h3⟩ := x
  unfold noteFrame
  simp only [hf]
  refine wpAny_bind (wpAny_field he hd h1 ?_)
  rw [if_pos (show (Value.ref T != Value.none) = true from by simp)]
  refine wpAny_bind (wpAny_field hT hdT h3 ?_)
  rw [if_pos (show (rawInt L == rawInt L) = true from by simp)]
  exact wpAny_pure h
theorem flightP {base : Heap} {l : List Env} {e : Addr} {fl : Value} {fr : Option Addr} {Q : Unit → Shared → Prop} (x : OnWay P base l e fl s.heap)
    (h : ∀ h', OnWay P base l e (fr.elim .none fun f => rawInt f) h' → s.heap.UpToSlots h' → Q () { s with heap := h' }) : wpAny M A (setFlight (.ref e) fr) Q E s := by
  obtain ⟨hkb, hen, hl, oe, vs, T, oT, ts, he, h0, hd, h1, hnT, hTe, hT, hdT, h3⟩ := x
  have hsz3 : 3 < ts.size := (Array.getElem?_eq_some_iff.mp h3).1
  have other : ∀ b, b ≠ T → (s.heap.update T (Obj.mapFields (·.setIfInBounds 3 (fr.elim Value.none fun f => rawInt f)))).get? b = s.heap.get? b :=
    fun b hb => Heap.get?_update_other _ _ (Ne.symm hb)
  have noRecord : ∀ b o, s.heap.get? b = some o → (∀ vs, o.data ≠ .fields vs) → b ≠ T := fun b o hb hnf q => by
    rw [q, hT] at hb; cases hb; exact hnf ts hdT
  unfold setFlight
  refine wpAny_bind (wpAny_field he hd h1 ?_)
  rw [if_pos (show (Value.ref T != Value.none) = true from by simp)]
  refine wpAny_setField hT hdT hsz3 (h _ ⟨fun b o hbo => (other b fun q => by rw [q, hnT] at hbo; cases hbo).trans (hkb b o hbo), hen, hl.of_keeps fun b o hb hnf => ⟨o, (other b (noRecord b o hb hnf)).trans hb, rfl⟩, ?_⟩ fun b o hb hnf => ⟨o.slots, (other b (noRecord b o hb hnf)).trans hb⟩)
  exact ⟨oe, vs, T, _, _, (other e (Ne.symm hTe)).trans he, h0, hd, h1, hnT, hTe, Heap.get?_update_self _ hT (Obj.isFreed_of_fields (Obj.data_mapFields hdT _)), Obj.data_mapFields hdT _, by simp [hsz3]⟩
theorem leave_onP (hP : Fits P) {base : Heap} {env : Env} {outer : List Env} {L e : Addr} {Q : Unit → Shared → Prop}
    (hfr : A.frames = some (env :: outer)) (hf : env.frame = some L) (x : OnWay P base (env :: outer) e .none s.heap)
    (h : ∀ h', OnWay P base outer e .none h' → s.heap.UpToSlots h' → Q () { s with heap := h' }) : wpAny M A (leaving env (.ref e)) Q E s := by
  unfold leaving
  refine wpAny_bind (note_onP hP hfr hf x fun h₁ x₁ u₁ => ?_)
  refine flightP x₁ fun h₂ x₂ u₂ => h h₂ ⟨x₂.stays, x₂.new, x₂.frames.2.2, x₂.tr⟩ (u₁.trans u₂)
theorem leave_heldP {base : Heap} {env : Env} {outer : List Env} {L e : Addr} {Q : Unit → Shared → Prop} (hf : env.frame = some L) (x : OnWay P base (env :: outer) e (rawInt L) s.heap)
    (h : ∀ h', OnWay P base outer e .none h' → s.heap.UpToSlots h' → Q () { s with heap := h' }) : wpAny M A (leaving env (.ref e)) Q E s := by
  unfold leaving
  refine wpAny_bind (note_againP hf x ?_)
  exact flightP x fun h₂ x₂ u₂ => h h₂ ⟨x₂.stays, x₂.new, x₂.frames.2.2, x₂.tr⟩ u₂
theorem cameBackP {base : Heap} {env : Env} {l : List Env} {L e : Addr} {fl : Value} (hf : env.frame = some L) (x : OnWay P base l e fl s.heap)
    (h : ∀ h', OnWay P base l e (rawInt L) h' → s.heap.UpToSlots h' → E (.ref e) { s with heap := h' }) : cameBackBy M A env E (.ref e) s := by
  have x' := x
  obtain ⟨hkb, hen, hl, oe, vs, T, oT, ts, he, h0, hd, h1, hnT, hTe, hT, hdT, h3⟩ := x
  unfold cameBackBy
  refine wpAny_bind (wpAny_field he hd h1 ?_)
  rw [if_neg (show ¬ ((Value.ref T == Value.none) = true) from by simp)]
  rw [hf]
  exact flightP x' h
end
end Mine
end
section
open PySem PySem.W PyProof.Rows
open PySem.Builtin.UnicodeEncodeError (members setMembers Members)
set_option maxRecDepth 100000
set_option maxHeartbeats 1000000
namespace Mine
abbrev UEE : String := "UnicodeEncodeError"
theorem uee_new : ExcNewFacts UEE "UnicodeEncodeError.__new__" where
  ends := by decide +kernel
  owner := by decide +kernel
  entry := entryFor_alias (id' := "BaseException.__new__") (by rw [fastTable_eq_tree]; kernel_rfl) (by first | rfl | decide +kernel) (by decide +kernel) (by rw [fastTable_eq_tree]; kernel_rfl)
  sub := by rw [isSubtype_type]; kernel_rfl
  notAttr := by rw [isSubtype_type]; kernel_rfl
  notName := by rw [isSubtype_type]; kernel_rfl
  made := by kernel_rfl
theorem uee_notType : (Value.type UEE == Value.type "type") = false := by decide +kernel
theorem uee_canMake : ((Manifest.find? UEE).bind fun x => List.findSome? (fun t => (Manifest.find? t).bind fun b =>
    if b.noNew = true then some true else if (b.attrs.any fun x => x.fst == "__new__") = true then some false else none) x.mro).getD false = false := by kernel_rfl
theorem uee_noVector : ∀ args, checkTypeCall UEE args = pure () := fun args => by kernel_rfl
theorem uee_mro : ∃ m, mroOf (.type UEE) = pure m ∧ m.isEmpty = false := ⟨[.type UEE, .type "UnicodeError", .type "ValueError", .type "Exception", .type "BaseException", .type "object"], by rw [mroOf_type]; kernel_rfl, rfl⟩
theorem uee_madeBy : Bind.madeBy (.type UEE) = pure (some "UnicodeEncodeError.__new__") := by kernel_rfl
theorem uee_newOk : ∀ rest, checkBuiltinCall "UnicodeEncodeError.__new__" ⟨.type UEE :: rest, []⟩ = pure () := fun rest => by kernel_rfl
theorem uee_init : Slot UEE "__init__" "UnicodeEncodeError.__init__" := .of (owner := UEE) (n := "__init__") (by rw [typeLookup_type, builtinLookup_eq_fast]; kernel_rfl) (by decide +kernel) (by decide +kernel) (by decide +kernel)
    (by first | exact .inl (by decide +kernel) | exact .inr (by decide +kernel)) (by rw [isSubtype_type]; kernel_rfl)
theorem uee_initEntry : entryFor table "UnicodeEncodeError.__init__" = some Builtin.«UnicodeEncodeError.__init__» := entryFor_of_tree (by kernel_rfl)
theorem uee_kind : builtinKind "UnicodeEncodeError.__init__" = some .slot := by kernel_rfl
theorem uee_split : splitId "UnicodeEncodeError.__init__" = some (UEE, "__init__") := by kernel_rfl
theorem uee_row : Manifest.signature? "UnicodeEncodeError.__init__" = some ⟨.hand, "wrapper __init__", "", .self, []⟩ := by kernel_rfl
/-- all but e as it was; e: what it holds -/
def ExAt (h₀ h : Heap) (e : Addr) (vs : Array Value) : Prop := (∀ b o, b ≠ e → h₀.get? b = some o → h.get? b = some o) ∧ h.get? e = some { cls := .type UEE, data := .fields vs }
abbrev six (t : Value) : Array Value := #[t, .none, .none, .none, .bool false, .none]
abbrev elv (t : Value) (m : Members) : Array Value := #[t, .none, .none, .none, .bool false, .none, m.encoding, m.object, rawInt m.start, rawInt m.stop, m.reason]
section
variable {M : Model} {A : Around} {E : Value → Shared → Prop} {s : Shared} {h₀ : Heap} {e : Addr} {t : Value}
theorem ex_upd {vs : Array Value} (x : ExAt h₀ s.heap e vs) (f : Array Value → Array Value) : ExAt h₀ (s.heap.update e (Obj.mapFields f)) e (f vs) :=
  ⟨fun b o hb ho => by rw [Heap.get?_update_other _ _ (Ne.symm hb)]; exact x.1 b o hb ho, by rw [Heap.get?_update_self _ x.2 rfl]; rfl⟩
theorem mem_six {Q : Members → Shared → Prop} (x : ExAt h₀ s.heap e (six t)) (h : Q {} s) : wpAny M A (members (.ref e)) Q E s := by
  unfold members
  exact wpAny_bind (wpAny_fieldsOf x.2 rfl (wpAny_pure h))
theorem mem_elv {m : Members} {Q : Members → Shared → Prop} (x : ExAt h₀ s.heap e (elv t m)) (h : Q m s) : wpAny M A (members (.ref e)) Q E s := by
  unfold members
  exact wpAny_bind (wpAny_fieldsOf x.2 rfl (wpAny_pure h))
theorem set_six {m : Members} {Q : Unit → Shared → Prop} (x : ExAt h₀ s.heap e (six t)) (h : ∀ h', ExAt h₀ h' e (elv t m) → Q () { s with heap := h' }) : wpAny M A (setMembers (.ref e) m) Q E s := by
  unfold setMembers
  exact wpAny_updateFields x.2 rfl (h _ (ex_upd x _)) (by rw [sizeLine_eq]; simp)
theorem set_elv {m m' : Members} {Q : Unit → Shared → Prop} (x : ExAt h₀ s.heap e (elv t m)) (h : ∀ h', ExAt h₀ h' e (elv t m') → Q () { s with heap := h' }) : wpAny M A (setMembers (.ref e) m') Q E s := by
  unfold setMembers
  exact wpAny_updateFields x.2 rfl (h _ (ex_upd x _)) (by rw [sizeLine_eq]; simp)
end
end Mine
end
section
open PySem PySem.W PyProof.Rows
open PySem.Builtin.UnicodeEncodeError (members setMembers Members beginInit strArgument initRange sizeArgument)
set_option maxRecDepth 100000
set_option maxHeartbeats 1000000
namespace Mine
section
variable {M : Model} {A : Around} {E : Value → Shared → Prop} {s : Shared} {h₀ : Heap} {e : Addr} {t : Value}
theorem begin_uee {v1 v2 v3 v4 v5 : Value} {Q : Value × List Value → Shared → Prop} (x : ExAt h₀ s.heap e (six t))
    (h : ∀ h' t', h₀.get? t' = none → ExAt h₀ h' e (elv (.ref t') {}) → h'.get? t' = some { cls := .type "tuple", data := .seq [v1, v2, v3, v4, v5].toArray } → Q (.ref e, [v1, v2, v3, v4, v5]) { s with heap := h' }) (hs : ∀ b o, h₀.get? b = some o → b < s.heap.objs.size) :
    wpAny M A (beginInit "UnicodeEncodeError.__init__" 5 ⟨[.ref e, v1, v2, v3, v4, v5], []⟩) Q E s := by
  unfold beginInit
  have hT : ∀ o, h₀.get? s.heap.objs.size = some o → False := fun o ho => Nat.lt_irrefl _ (hs _ _ ho)
  have hTn : h₀.get? s.heap.objs.size = none := by
    cases q : h₀.get? s.heap.objs.size with
    | none => rfl
    | some o => exact (hT o q).elim
  have hne : s.heap.objs.size ≠ e := Nat.ne_of_gt (Heap.lt_size x.2)
  show wpAny M A (field (.ref e) 0 >>= _) _ _ s
  refine wpAny_bind (wpAny_field x.2 rfl rfl ?_)
  refine wpAny_bind (wpAny_newTuple ?_)
  have x₁ : ExAt h₀ (s.heap.push { cls := .type "tuple", data := .seq [v1, v2, v3, v4, v5].toArray }) e (six t) := ⟨fun b o hb ho => Heap.get?_push_of_some _ (x.1 b o hb ho), Heap.get?_push_of_some _ x.2⟩
  have g₁ : (s.heap.push { cls := .type "tuple", data := .seq [v1, v2, v3, v4, v5].toArray }).get? s.heap.objs.size = some { cls := .type "tuple", data := .seq [v1, v2, v3, v4, v5].toArray } := Heap.get?_push_size _ rfl
  generalize hq : s.heap.push { cls := .type "tuple", data := .seq [v1, v2, v3, v4, v5].toArray } = h₁ at x₁ g₁ ⊢
  refine wpAny_bind (wpAny_setField x₁.2 rfl (by simp) ?_)
  have x₂ : ExAt h₀ _ e (six (.ref s.heap.objs.size)) := ex_upd (s := { s with heap := h₁ }) x₁ (·.setIfInBounds 0 (.ref s.heap.objs.size))
  have g₂ := (Heap.get?_update_other h₁ (Obj.mapFields (·.setIfInBounds 0 (Value.ref s.heap.objs.size))) (Ne.symm hne)).trans g₁
  generalize (h₁.update e (Obj.mapFields (·.setIfInBounds 0 (Value.ref s.heap.objs.size)))) = h₂ at x₂ g₂ ⊢
  refine wpAny_bind (wpAny_letGo ?_)
  show wpAny M A (members (.ref e) >>= _) _ _ _
  have hs2 : ∀ (h₂ h₃ : Heap), ExAt h₂ h₃ e (elv (.ref s.heap.objs.size) {}) → h₂.get? s.heap.objs.size = some { cls := .type "tuple", data := .seq [v1, v2, v3, v4, v5].toArray } → h₃.get? s.heap.objs.size = some { cls := .type "tuple", data := .seq [v1, v2, v3, v4, v5].toArray } := fun h₂ h₃ y g => y.1 _ _ hne g
  have up : ∀ {a b c : Heap} {vs ws : Array Value}, ExAt a b e vs → ExAt b c e ws → ExAt a c e ws := fun p q => ⟨fun b o hb ho => q.1 b o hb (p.1 b o hb ho), q.2⟩
  have self₂ : ExAt h₂ h₂ e (six (.ref s.heap.objs.size)) := ⟨fun _ _ _ e => e, x₂.2⟩
  refine wpAny_bind (mem_six (s := { s with heap := h₂ }) self₂ ?_)
  refine wpAny_bind (set_six (s := { s with heap := h₂ }) self₂ fun h₃ y₃ => ?_)
  refine wpAny_bind (wpAny_letGo ?_)
  refine wpAny_bind (mem_elv (s := { s with heap := h₃ }) y₃ ?_)
  refine wpAny_bind (set_elv (s := { s with heap := h₃ }) y₃ fun h₄ y₄ => ?_)
  refine wpAny_bind (wpAny_letGo ?_)
  refine wpAny_bind (mem_elv (s := { s with heap := h₄ }) y₄ ?_)
  refine wpAny_bind (set_elv (s := { s with heap := h₄ }) y₄ fun h₅ y₅ => ?_)
  refine wpAny_bind (wpAny_letGo ?_)
  exact wpAny_pure (h h₅ _ hTn (up x₂ y₅) (hs2 _ _ y₅ g₂))
theorem strArg_ok {id : String} {i : Nat} {x : Str} {tx : Tok} {Q : Unit → Shared → Prop} (h : Q () s) : wpAny M A (strArgument id i (.str x tx)) Q E s := by
  unfold strArgument
  refine wpAny_bind (wpAny_of_eq (show asStr? (.str x tx) = pure (some x) from rfl) ?_)
  exact wpAny_pure h
theorem sizeArg_ok {id : String} {i : Int} {ti : Tok} {Q : Int → Shared → Prop} (h0 : 0 ≤ i) (h1 : i < 2 ^ 63) (h : Q i s) : wpAny M A (sizeArgument id (.int i ti)) Q E s := by
  unfold sizeArgument
  refine wpAny_bind (wpAny_of_eq (show asIndex (.int i ti) = pure i from rfl) ?_)
  rw [if_neg (by simp; omega)]
  exact wpAny_pure h
theorem init_uee {c o r : Str} {tc to' tr ti tj : Tok} {i j : Int} {Q : Fin → Shared → Prop} (x : ExAt h₀ s.heap e (six t)) (hs : ∀ b o, h₀.get? b = some o → b < s.heap.objs.size) (hi : 0 ≤ i) (hi' : i < 2 ^ 63) (hj : 0 ≤ j) (hj' : j < 2 ^ 63)
    (h : ∀ h' t' m, h₀.get? t' = none → ExAt h₀ h' e (elv (.ref t') m) → h'.get? t' = some { cls := .type "tuple", data := .seq [Value.str c tc, .str o to', .int i ti, .int j tj, .str r tr].toArray } → Q (.done (.ret .none)) { s with heap := h' }) :
    wpAny M A (Builtin.«UnicodeEncodeError.__init__» ⟨[.ref e, .str c tc, .str o to', .int i ti, .int j tj, .str r tr], []⟩) Q E s := by
  unfold Builtin.«UnicodeEncodeError.__init__»
  refine wpAny_bind (begin_uee x (fun h₁ t' hn x₁ g₁ => ?_) hs)
  show wpAny M A (strArgument _ 1 _ >>= _) _ _ _
  have hte : t' ≠ e := fun q => by rw [q, x₁.2] at g₁; have := congrArg Obj.data (Option.some.inj g₁); cases this
  refine wpAny_bind (strArg_ok (wpAny_bind (strArg_ok (wpAny_bind ?_))))
  unfold initRange
  have up : ∀ {a b c : Heap} {vs ws : Array Value}, ExAt a b e vs → ExAt b c e ws → ExAt a c e ws := fun p q => ⟨fun b o hb ho => q.1 b o hb (p.1 b o hb ho), q.2⟩
  have self₁ : ExAt h₁ h₁ e (elv (.ref t') {}) := ⟨fun _ _ _ e => e, x₁.2⟩
  refine wpAny_bind (sizeArg_ok hi hi' (wpAny_bind (mem_elv (s := { s with heap := h₁ }) self₁ ?_)))
  refine wpAny_bind (set_elv (s := { s with heap := h₁ }) self₁ fun h₂ y₂ => ?_)
  refine wpAny_bind (sizeArg_ok hj hj' (wpAny_bind (mem_elv (s := { s with heap := h₂ }) y₂ ?_)))
  refine set_elv (s := { s with heap := h₂ }) y₂ fun h₃ y₃ => ?_
  refine wpAny_bind (strArg_ok ?_)
  refine wpAny_bind (mem_elv (s := { s with heap := h₃ }) y₃ ?_)
  refine wpAny_bind (set_elv (s := { s with heap := h₃ }) y₃ fun h₄ y₄ => ?_)
  exact wpAny_pure (h h₄ t' _ hn (up x₁ y₄) (y₄.1 _ _ hte g₁))
end
section
variable {prog : Program} {w : World} {A : Around} {E : Value → Shared → Prop}
/-- a new UnicodeEncodeError -/
structure NewU (h h' : Heap) (e : Addr) : Prop where
  keeps : ∀ b o, h.get? b = some o → h'.get? b = some o
  new : h.get? e = none
  there : ∃ ob t m, h'.get? e = some ob ∧ ob.cls = .type UEE ∧ ob.data = .fields (elv t m)
theorem check_uee {self : Value} {rest : List Value} {Q : Unit → Shared → Prop}
    {hp : Heap} {g : Array GenState} {d : Drawn} {tk : Nat} {os : OsState} (hT : Shared.TypeIs ⟨hp, g, d, tk, os⟩ self UEE) (h : Q () ⟨hp, g, d, tk, os⟩) :
    wpAny (model prog w) A (checkBuiltinCall "UnicodeEncodeError.__init__" ⟨self :: rest, []⟩) Q E ⟨hp, g, d, tk, os⟩ := by
  have hsub := uee_new.sub
  simp only [checkBuiltinCall, uee_kind, uee_split, uee_row]
  wp_walk
  exact h
theorem type_call_uee {c o r : Str} {tc to' tr ti tj : Tok} {i j : Int} {Q : Fin → Shared → Prop} (hi : 0 ≤ i) (hi' : i < 2 ^ 63) (hj : 0 ≤ j) (hj' : j < 2 ^ 63)
    {hp : Heap} {g : Array GenState} {d : Drawn} {tk : Nat} {os : OsState}
    (h : ∀ h' e, NewU hp h' e → Q (.done (.ret (.ref e))) ⟨h', g, d, tk, os⟩) :
    wpAny (model prog w) A (Builtin.«type.__call__» ⟨[.type UEE, .str c tc, .str o to', .int i ti, .int j tj, .str r tr], []⟩) Q E ⟨hp, g, d, tk, os⟩ := by
  generalize hrest : [Value.str c tc, .str o to', .int i ti, .int j tj, .str r tr] = rest
  have hlen : rest.length ≤ sizeLine := by rw [← hrest, sizeLine_eq]; simp
  have hnt := uee_notType
  have hcan := uee_canMake
  have hchk := uee_noVector ⟨rest, []⟩
  obtain ⟨m, hmro, hne⟩ := uee_mro
  have hmade := uee_madeBy
  wp_walk
  refine codeAny_call_builtin_code (Code.quiet_builtin _ (by decide +kernel)) (wpAny_of_eq (uee_newOk rest) ?_)
  refine codeAny_exc_new uee_new ?_ hlen
  show wpAny _ _ _ _ _ _
  have hget : ((hp.push { cls := .type "tuple", data := .seq rest.toArray }).push
      { cls := .type UEE, data := .fields #[.ref hp.objs.size, .none, .none, .none, .bool false, .none] }).get? (hp.objs.size + 1) = some
      { cls := .type UEE, data := .fields #[.ref hp.objs.size, .none, .none, .none, .bool false, .none] } := by heap_get
  refine wpAny_bind (wpAny_isInstance ⟨_, hget, rfl⟩ uee_new.sub ?_)
  wp_step
  refine wpAny_bind (wpAny_holding (wpAny_callSpecial?_slot ⟨_, hget, rfl⟩ uee_init (wpAny_call (codeAny_call_builtin uee_init.plain uee_initEntry (check_uee ⟨_, hget, rfl⟩ ?_)))))
  subst hrest
  have x : ExAt hp ((hp.push { cls := .type "tuple", data := .seq [Value.str c tc, .str o to', .int i ti, .int j tj, .str r tr].toArray }).push { cls := .type UEE, data := .fields #[.ref hp.objs.size, .none, .none, .none, .bool false, .none] }) (hp.objs.size + 1) (six (.ref hp.objs.size)) :=
    ⟨fun b o hb ho => Heap.get?_push_of_some _ (Heap.get?_push_of_some _ ho), hget⟩
  refine init_uee (s := ⟨_, g, d, tk, os⟩) x (fun b o ho => ?_) hi hi' hj hj' fun h' t' m hn x' g' => ?_
  · have := Heap.lt_size ho
    show b < ((hp.push _).push _).objs.size
    rw [Heap.size_push, Heap.size_push]
    exact Nat.lt_succ_of_lt (Nat.lt_succ_of_lt this)
  · wp_walk
    refine h _ _ ⟨fun b o hb => x'.1 b o (Nat.ne_of_lt (Nat.lt_succ_of_lt (Heap.lt_size hb))) hb, Heap.get?_none_of_le (Nat.le_succ _), _, _, m, x'.2, rfl, rfl⟩
theorem call_uee {c o r : Str} {tc to' tr ti tj : Tok} {i j : Int} {Q : Value → Shared → Prop} {s : Shared} (hi : 0 ≤ i) (hi' : i < 2 ^ 63) (hj : 0 ≤ j) (hj' : j < 2 ^ 63)
    (h : ∀ h' e, NewU s.heap h' e → Q (.ref e) { s with heap := h' }) :
    wpAny (model prog w) A (call (.type UEE) [.str c tc, .str o to', .int i ti, .int j tj, .str r tr]) Q E s := by
  refine wpAny_call (codeAny_of_tree ?_)
  show wpAny _ _ (again (.builtin "type.__call__" ⟨.type UEE :: [.str c tc, .str o to', .int i ti, .int j tj, .str r tr], []⟩)) _ _ _
  obtain ⟨hp, g, d, tk, os⟩ := s
  exact wpAny_pure ⟨Code.quiet_builtin _ (by decide +kernel), codeAny_builtin entry_typeCall (type_call_uee hi hi' hj hj' (fun h' e hm => h h' e hm))⟩
end
end Mine
end
section
open PySem PySem.W PyProof.Rows
open PySem.Builtin._codecs (encodeNarrow asciiCodec raiseEncodeFault Faults)
set_option maxRecDepth 100000
set_option maxHeartbeats 1000000
namespace Mine
theorem bytes_fold (l : List Nat) (acc : Array UInt8) : l.foldl (fun acc y => acc ++ (asciiCodec.bytesOf y).toArray) acc = acc ++ (l.map (·.toUInt8)).toArray := by
  induction l generalizing acc with
  | nil => simp
  | cons c l ih => rw [List.foldl_cons, ih]; show acc ++ #[c.toUInt8] ++ _ = _; simp
theorem bad_eq (c : Nat) : asciiCodec.bad c = decide (c ≥ 128) := rfl
abbrev NS := Nat × Array UInt8 × Faults
def stopAt (x : Str) (i : Nat) : Nat := i + ((x.cps.extract i x.cps.size).findIdx? fun y => !asciiCodec.bad y).getD (x.cps.size - i)
def cleanAt (x : Str) (i : Nat) : Nat := ((x.cps.extract i x.cps.size).findIdx? asciiCodec.bad).getD (x.cps.extract i x.cps.size).size
/-- a turn of the encoder's loop -/
noncomputable def turnOf (x : Str) (U : NS → Sem (ForInStep NS)) (R : Nat → NS → Sem (ForInStep NS)) (_ : Nat) (r : NS) : Sem (ForInStep NS) :=
  if r.2.1.size > sizeLine then U r
  else match x.cps[r.1]? with
    | some c => if !asciiCodec.bad c then pure (.yield (r.1 + cleanAt x r.1, ((x.cps.extract r.1 x.cps.size).extract 0 (cleanAt x r.1)).foldl (fun acc y => acc ++ (asciiCodec.bytesOf y).toArray) r.2.1, r.2.2)) else R c r
    | none => pure (.done r)
theorem range_same {β : Type} {n : Nat} {b : β} {f : Nat → β → Sem (ForInStep β)} : forIn ([:n] : Std.Legacy.Range) b f = forIn (List.range' 0 n) b f := by
  rw [Std.Legacy.Range.forIn_eq_forIn_range']
  simp [Std.Legacy.Range.size]
theorem ite_same {α : Type} {p : Prop} [Decidable p] {a a' b b' : α} (h1 : a = a') (h2 : b = b') : ite p a b = ite p a' b' := by rw [h1, h2]
theorem narrow_shape (self : Value) (x : Str) : ∃ U R, encodeNarrow "str.encode" asciiCodec none self x = (forIn (List.range' 0 x.length) ((0, #[], {}) : NS) (turnOf x U R) >>= fun r => pure r.2.1) ∧
    ∀ (M : Model) (A : Around) (E : Value → Shared → Prop) (s : Shared) (c : Nat) (r : NS) (Q : ForInStep NS → Shared → Prop), (∀ Q' : Unit → Shared → Prop, wpAny M A (raiseEncodeFault r.2.2 asciiCodec.name self r.1 (stopAt x r.1) asciiCodec.reason : Sem Unit) Q' E s) → wpAny M A (R c r) Q E s := by
  apply Exists.intro
  apply Exists.intro
  apply And.intro
  case h.h.left =>
    rw [← range_same]
    unfold encodeNarrow
    refine congrArg (fun f => (forIn ([:x.length] : Std.Legacy.Range) ((0, #[], {}) : NS) f >>= fun r => pure r.2.1)) (funext fun k => funext fun r => ?_)
    unfold turnOf
    refine ite_same rfl ?_
    dsimp only
    cases x.cps[r.1]? with
    | none => rfl
    | some c => exact ite_same rfl rfl
  case h.h.right =>
    intro M A E s c r Q h
    refine wpAny_bind (wpAny_rule ?_)
    have hstr : ((none : Option Str).getD (Str.ofString "strict")).toString = "strict" := by decide +kernel
    simp only [hstr]
    split
    · rename_i heq; simp at heq; done
    rw [if_pos (by decide +kernel)]
    exact wpAny_bind (h _)
section
variable {x : Str} {U : NS → Sem (ForInStep NS)} {R : Nat → NS → Sem (ForInStep NS)} {k i c : Nat} {out : Array UInt8} {st : Faults}
theorem turn_clean (hs : out.size ≤ sizeLine) (hc : x.cps[i]? = some c) (hb : asciiCodec.bad c = false) : turnOf x U R k (i, out, st) = pure (.yield (i + cleanAt x i, ((x.cps.extract i x.cps.size).extract 0 (cleanAt x i)).foldl (fun acc y => acc ++ (asciiCodec.bytesOf y).toArray) out, st)) := by
  unfold turnOf
  rw [if_neg (Nat.not_lt.mpr hs), hc]
  show (if (!asciiCodec.bad c) = true then _ else _) = _
  rw [hb]; rfl
theorem turn_bad (hs : out.size ≤ sizeLine) (hc : x.cps[i]? = some c) (hb : asciiCodec.bad c = true) : turnOf x U R k (i, out, st) = R c (i, out, st) := by
  unfold turnOf
  rw [if_neg (Nat.not_lt.mpr hs), hc]
  show (if (!asciiCodec.bad c) = true then _ else _) = _
  rw [hb]; rfl
theorem turn_end (hs : out.size ≤ sizeLine) (hc : x.cps[i]? = none) : turnOf x U R k (i, out, st) = pure (.done (i, out, st)) := by
  unfold turnOf
  rw [if_neg (Nat.not_lt.mpr hs), hc]
theorem find_stop {l : Array Nat} {f : Nat → Bool} : (l.findIdx? f).getD l.size ≤ l.size := by
  cases q : l.findIdx? f with
  | none => exact Nat.le_refl _
  | some j => exact Nat.le_of_lt (Array.findIdx?_eq_some_iff_getElem.mp q).1
theorem stop_small (hz : x.length ≤ sizeLine) (hi : i < x.length) : stopAt x i < 2 ^ 63 := by
  have h := find_stop (l := x.cps.extract i x.cps.size) (f := fun y => !asciiCodec.bad y)
  have e : (x.cps.extract i x.cps.size).size = x.cps.size - i := by simp
  rw [e] at h
  have hlen : x.cps.size = x.length := rfl
  have hzl : sizeLine < 2 ^ 63 := by rw [sizeLine_eq]; omega
  unfold stopAt
  omega
end
section
variable {prog : Program} {w : World} {A : Around} {E : Value → Shared → Prop} {s : Shared}
/-- one turn of the loop, then the rest -/
theorem narrow_turn {M : Model} {l : List Nat} {k : Nat} {b b' : NS} {f : Nat → NS → Sem (ForInStep NS)} {Q : Array UInt8 → Shared → Prop} (e : f k b = pure (.yield b')) (h : wpAny M A (forIn l b' f >>= fun r => pure r.2.1) Q E s) :
    wpAny M A (forIn (k :: l) b f >>= fun r => pure r.2.1) Q E s := by
  rw [List.forIn_cons, e]; exact h
theorem narrow_end {M : Model} {l : List Nat} {k : Nat} {b b' : NS} {f : Nat → NS → Sem (ForInStep NS)} {Q : Array UInt8 → Shared → Prop} (e : f k b = pure (.done b')) (h : Q b'.2.1 s) : wpAny M A (forIn (k :: l) b f >>= fun r => pure r.2.1) Q E s := by
  rw [List.forIn_cons, e]; exact wpAny_pure h
theorem narrow_raise {M : Model} {l : List Nat} {k : Nat} {b : NS} {f : Nat → NS → Sem (ForInStep NS)} {Q : Array UInt8 → Shared → Prop} (h : ∀ Q', wpAny M A (f k b) Q' E s) : wpAny M A (forIn (k :: l) b f >>= fun r => pure r.2.1) Q E s := by
  rw [List.forIn_cons]; exact wpAny_bind (wpAny_bind (h _))
theorem enc_ascii {x : Str} {self : Value} {Q : Array UInt8 → Shared → Prop} (ha : ∀ c ∈ x.cps, c < 128) (hz : x.length ≤ sizeLine) (h : Q (x.cps.map (·.toUInt8)) s) :
    wpAny (model prog w) A (encodeNarrow "str.encode" asciiCodec none self x) Q E s := by
  obtain ⟨U, R, e, -⟩ := narrow_shape self x
  rw [e]
  clear e
  have hlen : x.cps.size = x.length := rfl
  have bad : ∀ c ∈ x.cps, asciiCodec.bad c = false := fun c hc => decide_eq_false (Nat.not_le.mpr (ha c hc))
  rcases hn : x.length with _ | k
  · have e0 : x.cps = #[] := Array.eq_empty_of_size_eq_zero (hlen.trans hn)
    rw [e0, Array.map_empty] at h
    exact wpAny_pure h
  · have h0 : 0 < x.cps.size := by omega
    have hc0 : x.cps[0]? = some x.cps[0] := Array.getElem?_eq_getElem h0
    have hext : x.cps.extract 0 x.cps.size = x.cps := by simp
    have hcl : cleanAt x 0 = x.cps.size := by
      unfold cleanAt
      rw [hext, Array.findIdx?_eq_none_iff.mpr bad]; rfl
    have hfold : Array.foldl (fun acc y => acc ++ (asciiCodec.bytesOf y).toArray) #[] (x.cps.extract 0 x.cps.size) = x.cps.map (·.toUInt8) := by
      rw [hext, ← Array.foldl_toList, bytes_fold]
      apply Array.toList_inj.mp
      simp
    rw [List.range'_succ]
    refine narrow_turn (turn_clean (Nat.zero_le _) hc0 (bad _ (Array.getElem_mem h0))) ?_
    rw [hcl, hext, hfold, Nat.zero_add]
    cases k with
    | zero => exact wpAny_pure h
    | succ k =>
      rw [List.range'_succ]
      exact narrow_end (turn_end (by rw [Array.size_map, hlen]; exact hz) (Array.getElem?_eq_none (Nat.le_of_eq (Nat.zero_add _).symm))) h
theorem raise_fault {α : Type} {o : Str} {t : Tok} {i j : Nat} {Q : α → Shared → Prop} (hh : A.handled = none) (hi : i < 2 ^ 63) (hj : j < 2 ^ 63)
    (h : ∀ h' e tk, NewU s.heap h' e → E (.ref e) { s with heap := h', toks := tk }) :
    wpAny (model prog w) A (raiseEncodeFault {} asciiCodec.name (.str o t) i j asciiCodec.reason : Sem α) Q E s := by
  show wpAny (model prog w) A ((do call (.type UEE) [← mkStr (Str.ofString asciiCodec.name), .str o t, ← mkInt i, ← mkInt j, ← mkStr (Str.ofString asciiCodec.reason)]) >>= fun e => (raiseNew e : Sem α)) Q E s
  refine wpAny_bind (wpAny_bind (wpAny_mkStr (wpAny_bind (wpAny_mkInt (wpAny_bind (wpAny_mkInt (wpAny_bind (wpAny_mkStr ?_))))))))
  refine call_uee (by omega) (by omega) (by omega) (by omega) fun h' e hN => ?_
  obtain ⟨ob, tt, m, ho, hc, hd⟩ := hN.there
  refine raise_hv (H := .no) hh trivial (by simp [Hv.addrs]) ho hd (by simp) fun h'' vs' hs hg hv => ?_
  subst hv
  refine h _ _ _ ⟨fun b o hb => ?_, hN.new, ⟨_, tt, m, hg, hc, rfl⟩⟩
  exact hs.extBut b o (fun q => by rw [q, hN.new] at hb; cases hb) (hN.keeps b o hb)
theorem enc_beyond {x : Str} {t : Tok} {Q : Array UInt8 → Shared → Prop} (hh : A.handled = none) (hb : ∃ c ∈ x.cps, 128 ≤ c) (hz : x.length ≤ sizeLine) (h : ∀ h' e tk, NewU s.heap h' e → E (.ref e) { s with heap := h', toks := tk }) :
    wpAny (model prog w) A (encodeNarrow "str.encode" asciiCodec none (.str x t) x) Q E s := by
  obtain ⟨U, R, e, hR⟩ := narrow_shape (.str x t) x
  rw [e]
  clear e
  have hlen : x.cps.size = x.length := rfl
  have hzl : sizeLine < 2 ^ 63 := by rw [sizeLine_eq]; omega
  have fall : ∀ i c (r : NS) Q', r.1 = i → r.2.2 = {} → i < x.length → wpAny (model prog w) A (R c r) Q' E s := fun i c r Q' e1 e2 hi => hR _ _ _ _ _ _ _ fun Q'' => by
    rw [e1, e2]
    exact raise_fault hh (by omega) (stop_small hz hi) h
  obtain ⟨c1, hc1, hc1b⟩ := hb
  have h0 : 0 < x.cps.size := Nat.pos_of_ne_zero fun q => by rw [Array.eq_empty_of_size_eq_zero q] at hc1; simp at hc1
  have hc0 : x.cps[0]? = some x.cps[0] := Array.getElem?_eq_getElem h0
  obtain ⟨k, hn⟩ : ∃ k, x.length = k + 1 := ⟨x.length - 1, by omega⟩
  rw [hn, List.range'_succ]
  cases hb0 : asciiCodec.bad x.cps[0] with
  | true => exact narrow_raise fun Q' => by rw [turn_bad (Nat.zero_le _) hc0 hb0]; exact fall 0 _ _ _ rfl rfl h0
  | false =>
    have hext : x.cps.extract 0 x.cps.size = x.cps := by simp
    refine narrow_turn (turn_clean (Nat.zero_le _) hc0 hb0) ?_
    have hj : cleanAt x 0 < x.cps.size ∧ asciiCodec.bad (x.cps[cleanAt x 0]!) = true := by
      unfold cleanAt
      rw [hext]
      cases q : Array.findIdx? asciiCodec.bad x.cps with
      | some j =>
        obtain ⟨h1, h2, _⟩ := Array.findIdx?_eq_some_iff_getElem.mp q
        exact ⟨h1, by rw [Option.getD_some, getElem!_pos x.cps j h1]; exact h2⟩
      | none =>
        have := Array.findIdx?_eq_none_iff.mp q c1 hc1
        rw [bad_eq, decide_eq_false_iff_not] at this
        exact absurd hc1b this
    obtain ⟨j, hjd⟩ : ∃ j, cleanAt x 0 = j := ⟨_, rfl⟩
    rw [hjd] at hj ⊢
    obtain ⟨hjs, hjb⟩ := hj
    have hcj : x.cps[0 + j]? = some (x.cps[j]!) := by rw [Nat.zero_add, getElem!_pos x.cps j hjs]; exact Array.getElem?_eq_getElem hjs
    have hj0 : j ≠ 0 := fun q => by
      rw [q, getElem!_pos x.cps 0 h0, hb0] at hjb
      cases hjb
    obtain ⟨k', rfl⟩ : ∃ k', k = k' + 1 := ⟨k - 1, by omega⟩
    have hos : (Array.foldl (fun acc y => acc ++ (asciiCodec.bytesOf y).toArray) #[] ((x.cps.extract 0 x.cps.size).extract 0 j)).size ≤ sizeLine := by
      rw [← Array.foldl_toList, bytes_fold]
      simp
      omega
    rw [List.range'_succ]
    exact narrow_raise fun Q' => by rw [turn_bad hos hcj hjb]; exact fall _ _ _ _ rfl rfl (by omega)
end
end Mine
end
section
open PySem PySem.W PyProof.Rows
open PySem.Builtin._codecs (encodeNarrow asciiCodec encodeRoad)
set_option maxRecDepth 100000
set_option maxHeartbeats 1000000
namespace Mine
theorem encodeRoad_ascii (id : String) (self : Value) (x : Str) (errors : Option Str) : encodeRoad id self x (Str.ofString "ascii") errors = (do mkBytes (← encodeNarrow id asciiCodec errors self x)) := by
  first | rfl | (unfold encodeRoad; rfl) | (unfold encodeRoad; simp only []; rfl) | decide
theorem encode_tree2 (x : Str) (t u : Tok) : Builtin.«str.encode» ⟨[.str x t, .str (Str.ofString "ascii") u], []⟩ = (do ret (← encodeRoad "str.encode" (.str x t) x (Str.ofString "ascii") none)) := by
  first | rfl | kernel_rfl
section
variable {prog : Program} {w : World} {A : Around} {E : Value → Shared → Prop} {s : Shared} {x : Str} {t u : Tok}
theorem gm_encode {pl : Sem Bool} {Q : Value × List Value → Shared → Prop} (h : Q (.builtin "str.encode", [.str x t]) s) : wpAny (model prog w) A (getMethod (.str x t) (Str.ofString "encode") pl) Q E s :=
  GM.of (.str x t) (typeIs_str _ _ _) F.slot_str_encode F.type_str_encode GM.noRef h
theorem encode_ascii {Q : Value → Shared → Prop} (ha : ∀ c ∈ x.cps, c < 128) (hz : x.length ≤ 100000) (h : ∀ t' tk, Q (.bytes (x.cps.map (·.toUInt8)) t') { s with toks := tk }) :
    wpAny (model prog w) A (call (.builtin "str.encode") [.str x t, .str (Str.ofString "ascii") u]) Q E s := by
  refine wpAny_call_entry F.slot_str_encode (typeIs_str _ _ _) F.entry_str_encode ?_ (F.args_str_encode_2 _ _)
  rw [encode_tree2, encodeRoad_ascii]
  refine wpAny_bind (wpAny_bind (enc_ascii ha (by rw [sizeLine_eq]; omega) ?_))
  exact wpAny_mkBytes (wpAny_pure ⟨_, rfl, h _ _⟩) (by rw [Array.size_map, sizeLine_eq]; have : x.cps.size = x.length := rfl; omega)
theorem encode_beyond {Q : Value → Shared → Prop} (hh : A.handled = none) (hb : ∃ c ∈ x.cps, 128 ≤ c) (hz : x.length ≤ 100000) (h : ∀ h' e tk, NewU s.heap h' e → E (.ref e) { s with heap := h', toks := tk }) :
    wpAny (model prog w) A (call (.builtin "str.encode") [.str x t, .str (Str.ofString "ascii") u]) Q E s := by
  refine wpAny_call_entry F.slot_str_encode (typeIs_str _ _ _) F.entry_str_encode ?_ (F.args_str_encode_2 _ _)
  rw [encode_tree2, encodeRoad_ascii]
  exact wpAny_bind (wpAny_bind (enc_beyond hh hb (by rw [sizeLine_eq]; omega) h))
/-- encoding: both ways -/
theorem encode_both {Q : Value → Shared → Prop} (hh : A.handled = none) (hz : x.length ≤ 100000) (h1 : (∀ c ∈ x.cps, c < 128) → ∀ t' tk, Q (.bytes (x.cps.map (·.toUInt8)) t') { s with toks := tk })
    (h2 : (∃ c ∈ x.cps, 128 ≤ c) → ∀ h' e tk, NewU s.heap h' e → E (.ref e) { s with heap := h', toks := tk }) :
    wpAny (model prog w) A (call (.builtin "str.encode") [.str x t, .str (Str.ofString "ascii") u]) Q E s := by
  by_cases hb : ∃ c ∈ x.cps, 128 ≤ c
  · exact encode_beyond hh hb hz (h2 hb)
  · have ha : ∀ c ∈ x.cps, c < 128 := fun c hc => Nat.lt_of_not_le fun q => hb ⟨c, hc, q⟩
    exact encode_ascii ha hz (h1 ha)
end
end Mine
end
section
open PySem PySem.W PyProof.Rows
set_option maxRecDepth 100000
set_option maxHeartbeats 1000000
namespace Mine
/-- a text or octets -/
inductive Tx where
  | s (x : Str)
  | b (x : Array UInt8)
  deriving DecidableEq
inductive TxV : Tx → Value → Prop
  | s (x : Str) (t : Tok) : TxV (.s x) (.str x t)
  | b (x : Array UInt8) (t : Tok) : TxV (.b x) (.bytes x t)
inductive TxsAre : List Value → List Tx → Prop
  | nil : TxsAre [] []
  | cons {v : Value} {a : Tx} {vs : List Value} {as : List Tx} : TxV a v → TxsAre vs as → TxsAre (v :: vs) (a :: as)
theorem TxsAre.get {vs : List Value} {xs : List Tx} (h : TxsAre vs xs) : ∀ {i : Nat} {v : Value}, vs[i]? = some v → ∃ a, TxV a v ∧ xs[i]? = some a := by
  induction h with
  | nil => intro i v e; simp at e
  | cons hv _ ih =>
    intro i v e
    cases i with
    | zero => simp at e; exact ⟨_, e ▸ hv, by simp⟩
    | succ i => simp at e; obtain ⟨a, e1, e2⟩ := ih e; exact ⟨a, e1, by simpa using e2⟩
theorem TxsAre.len {vs : List Value} {xs : List Tx} (h : TxsAre vs xs) : vs.length = xs.length := by
  induction h with
  | nil => rfl
  | cons _ _ ih => simp [ih]
theorem txs_strs {vs : List Value} {xs : List Str} (h : StrsAre vs xs) : TxsAre vs (xs.map .s) := by
  induction h with
  | nil => exact .nil
  | cons y t _ ih => exact .cons (.s y t) ih
/-- the accumulator's items: references to pairs -/
inductive Pairs (led : List (Addr × Obj)) : List Value → List (Tx × Tx) → Prop
  | nil : Pairs led [] []
  | cons {tp : Addr} {u v : Value} {a b : Tx} {its : List Value} {ps : List (Tx × Tx)} : (tp, tupObj [u, v]) ∈ led → TxV a u → TxV b v → Pairs led its ps → Pairs led (.ref tp :: its) ((a, b) :: ps)
theorem Pairs.mono {led led' : List (Addr × Obj)} {its : List Value} {ps : List (Tx × Tx)} (h : Pairs led its ps) (hs : ∀ p ∈ led, p ∈ led') : Pairs led' its ps := by
  induction h with
  | nil => exact .nil
  | cons hm h1 h2 _ ih => exact .cons (hs _ hm) h1 h2 ih
theorem Pairs.len {led : List (Addr × Obj)} {its : List Value} {ps : List (Tx × Tx)} (h : Pairs led its ps) : its.length = ps.length := by
  induction h with
  | nil => rfl
  | cons _ _ _ _ ih => simp [ih]
theorem Pairs.snoc {led : List (Addr × Obj)} {its : List Value} {ps : List (Tx × Tx)} {tp : Addr} {u v : Value} {a b : Tx} (h : Pairs led its ps) (hm : (tp, tupObj [u, v]) ∈ led) (h1 : TxV a u) (h2 : TxV b v) : Pairs led (its ++ [.ref tp]) (ps ++ [(a, b)]) := by
  induction h with
  | nil => exact .cons hm h1 h2 .nil
  | cons hm' h1' h2' _ ih => exact .cons hm' h1' h2' ih
theorem Pairs.pop {led : List (Addr × Obj)} {its : List Value} {ps : List (Tx × Tx)} (h : Pairs led its ps) : Pairs led its.dropLast ps.dropLast := by
  induction h with
  | nil => exact .nil
  | cons hm h1 h2 r ih =>
    cases r with
    | nil => exact .nil
    | cons hm' h1' h2' r' => exact .cons hm h1 h2 ih
/-- one step of the walk -/
def walkStep (sep up : Tx) (still : List Tx) (ps : List (Tx × Tx)) (p : Tx) : List (Tx × Tx) :=
  if p = up then ps.dropLast else if p ∈ still then ps else ps ++ [(sep, p)]
def walkAll (sep up : Tx) (still : List Tx) (ps : List (Tx × Tx)) (xs : List Tx) : List (Tx × Tx) := xs.foldl (walkStep sep up still) ps
theorem walkStep_len (sep up : Tx) (still : List Tx) (ps : List (Tx × Tx)) (p : Tx) : (walkStep sep up still ps p).length ≤ ps.length + 1 := by
  unfold walkStep
  (repeat' split) <;> simp <;> omega
theorem walkAll_len (sep up : Tx) (still : List Tx) (xs : List Tx) (ps : List (Tx × Tx)) : (walkAll sep up still ps xs).length ≤ ps.length + xs.length := by
  unfold walkAll
  induction xs generalizing ps with
  | nil => simp
  | cons x xs ih =>
    have := ih (walkStep sep up still ps x)
    have := walkStep_len sep up still ps x
    simp only [List.foldl_cons, List.length_cons]; omega
theorem walk_bound (sep up : Tx) (still : List Tx) (xs : List Tx) (ps : List (Tx × Tx)) : ∀ i, ((xs.take i).foldl (walkStep sep up still) ps).length ≤ ps.length + xs.length := by
  intro i
  have := walkAll_len sep up still (xs.take i) ps
  unfold walkAll at this
  have h2 : (xs.take i).length ≤ xs.length := by simp; omega
  omega
section
variable {prog : Program} {w : World} {A : Around} {E : Value → Shared → Prop} {s : Shared} {env : Env} {h₀ : Heap} {x : Str} {body : List Stmt} {Q : Flow → Shared → Prop}
/-- the walk's loop: what holds between its turns -/
def WalkJ (x : Str) (f : List (Tx × Tx) → Tx → List (Tx × Tx)) (ps : List (Tx × Tx)) (xs : List Tx) (y dx : Addr) (news : List (Addr × Obj)) (m₀ : Str → Option Value) (i : Nat) (m : Str → Option Value) (nx : List (Addr × Obj)) : Prop :=
  ∃ (its : List Value) (n : Nat) (tl : List (Addr × Obj)) (u : Option Value), Pairs (tl ++ news) its ((xs.take i).foldl f ps) ∧ (∀ p ∈ tl, p.1 ≠ y) ∧
    m = (fun z => if z = x then u else m₀ z) ∧ nx = (y, accObj dx its.toArray n) :: (tl ++ news)
theorem walk_loop {l y dx : Addr} {vs its : List Value} {xs : List Tx} {nn n : Nat} {m₀ : Str → Option Value} {news : List (Addr × Obj)} {f : List (Tx × Tx) → Tx → List (Tx × Tx)} {ps : List (Tx × Tx)}
    (F : Fr h₀ env.locals s.heap m₀) (N : News h₀ env.locals s.heap ((y, accObj dx its.toArray n) :: news)) (hh : A.handled = none) (hl : (l, listOf vs.toArray nn) ∈ news) (hvs : TxsAre vs xs) (hps : Pairs news its ps) (hny : ∀ p ∈ news, p.1 ≠ y) {B : Nat} (hB : ∀ i, ((xs.take i).foldl f ps).length ≤ B)
    (turn : ∀ i p v its n tl h tk own, xs[i]? = some p → TxV p v → its.length ≤ B → Pairs (tl ++ (news ++ own)) its ((xs.take i).foldl f ps) → Pairs (tl ++ news) its ((xs.take i).foldl f ps) → (∀ p ∈ tl, p.1 ≠ y) → (∀ p ∈ tl ++ (news ++ own), p.1 ≠ y) →
      OwnOff own (((y, accObj dx its.toArray n) :: (tl ++ news)).map (·.1)) →
      Fr h₀ env.locals h (fun z => if z = x then some v else m₀ z) →
      News h₀ env.locals h ((y, accObj dx its.toArray n) :: (tl ++ (news ++ own))) →
      wpAny (model prog w) A (execs body env) (InvPostG h₀ env.locals (WalkJ x f ps xs y dx news m₀ (i + 1)) own { s with heap := h, toks := tk } Q) E { s with heap := h, toks := tk })
    (done : ∀ its n tl u h tk, Pairs (tl ++ news) its (xs.foldl f ps) → (∀ p ∈ tl, p.1 ≠ y) →
      Fr h₀ env.locals h (fun z => if z = x then u else m₀ z) → News h₀ env.locals h ((y, accObj dx its.toArray n) :: (tl ++ news)) → Q .next { s with heap := h, toks := tk }) :
    wpAny (model prog w) A (pyIter (.ref l)) (fun it s₂ => LoopAtV prog w A h₀ env x body Q E it s₂) E s := by
  refine kdl_iter (nn := nn) (vs := vs) (news := (y, accObj dx its.toArray n) :: news) (WalkJ x f ps xs y dx news m₀) hh (.tail _ hl) F N ⟨its, n, [], m₀ x, by simpa using hps, fun _ hp => (nomatch hp), ?_, rfl⟩ ?_ ?_
  · funext z
    by_cases h1 : z = x
    · rw [if_pos h1, h1]
    · rw [if_neg h1]
  · rintro i v m₁ news₁ h tk own hv hoff hl₁ ⟨its', n', tl, u, hp, hty, rfl, rfl⟩ F₁ N₁
    obtain ⟨p, hpv, hpx⟩ := hvs.get hv
    have N₂ : News h₀ env.locals h ((y, accObj dx its'.toArray n') :: (tl ++ (news ++ own))) := by
      rw [← List.append_assoc]; exact N₁
    refine wpAny_mono (turn i p v its' n' tl h tk own hpx hpv (by rw [hp.len]; exact hB i) (hp.mono fun q hq => ?_) hp hty ?_ hoff (fr_eq F₁ fun z => ?_) N₂) (fun fl s₂ q => ?_) fun _ _ e => e
    · rcases List.mem_append.mp hq with hq | hq
      · exact List.mem_append.mpr (.inl hq)
      · exact List.mem_append.mpr (.inr (List.mem_append.mpr (.inl hq)))
    · intro q hq
      rcases List.mem_append.mp hq with hq | hq
      · exact hty q hq
      · rcases List.mem_append.mp hq with hq | hq
        · exact hny q hq
        · exact hoff q hq y (by simp)
    · by_cases h1 : z = x <;> simp [h1]
    · have up : InvEndG h₀ env.locals (WalkJ x f ps xs y dx news m₀ (i + 1)) own { s with heap := h, toks := tk } s₂ → InvEndG h₀ env.locals (fun m' nx => (l, listOf vs.toArray nn) ∈ nx ∧ WalkJ x f ps xs y dx news m₀ (i + 1) m' nx) own { s with heap := h, toks := tk } s₂ := by
        rintro ⟨h', tk', m', news', nx', e', F', N', hn', ho', ha, hS⟩
        refine ⟨h', tk', m', news', nx', e', F', N', hn', ho', ha, ?_, hS⟩
        obtain ⟨_, _, _, _, _, _, _, rfl⟩ := hS
        exact .tail _ (List.mem_append.mpr (.inr hl))
      cases fl with
      | ret v => exact q
      | brk => exact q
      | next => exact up q
      | cont => exact up q
  · rintro m₁ news₁ h tk ⟨its', n', tl, u, hp, hty, rfl, rfl⟩ F₁ N₁
    rw [hvs.len, List.take_length] at hp
    exact done its' n' tl u h tk hp hty F₁ N₁
theorem walk_end {y dx L : Addr} {xs : List Tx} {i : Nat} {p : Tx} {m₀ m' : Str → Option Value} {news own tl tl' news' : List (Addr × Obj)} {its its0 : List Value} {its1 : Array Value} {n n0 : Nat} {f : List (Tx × Tx) → Tx → List (Tx × Tx)} {ps : List (Tx × Tx)} {h h' : Heap} {tk tk' : Nat} {u : Option Value}
    (F : Fr h₀ L h' m') (N : News h₀ L h' news') (hp : xs[i]? = some p) (hoff : OwnOff own (((y, accObj dx its0.toArray n0) :: (tl ++ news)).map (·.1))) (hty : ∀ p ∈ tl, p.1 ≠ y)
    (h1 : its1 = its.toArray) (hP : Pairs ((tl' ++ tl) ++ news) its (f ((xs.take i).foldl f ps) p)) (ht1 : ∀ q ∈ tl', q.1 ≠ y) (ht2 : ∀ q ∈ tl', ∀ r ∈ own, r.1 ≠ q.1)
    (hs : ∀ q ∈ (y, accObj dx its1 n) :: (tl' ++ (tl ++ (news ++ own))), q ∈ news')
    (hm : m' = fun z => if z = x then u else m₀ z) :
    InvEndG h₀ L (WalkJ x f ps xs y dx news m₀ (i + 1)) own { s with heap := h, toks := tk } { s with heap := h', toks := tk' } := by
  subst h1
  have he : (xs.take (i + 1)).foldl f ps = f ((xs.take i).foldl f ps) p := by
    rw [List.take_add_one, hp]; simp [List.foldl_append]
  refine ⟨h', tk', m', news', (y, accObj dx its.toArray n) :: ((tl' ++ tl) ++ news), rfl, F, N, ?_, ?_, ?_, its, n, tl' ++ tl, u, by rw [he]; exact hP, ?_, hm, rfl⟩
  · intro q hq
    apply hs
    simp only [List.mem_cons, List.mem_append] at hq ⊢
    rcases hq with h1 | (h1 | h1) | h1 <;> simp [h1]
  · intro q hq; apply hs; simp [hq]
  · intro r hr b hb
    simp only [List.map_cons, List.map_append, List.mem_cons, List.mem_append, List.mem_map] at hb
    have ho := hoff r hr
    rcases hb with hb | (⟨q, hq, rfl⟩ | ⟨q, hq, rfl⟩) | ⟨q, hq, rfl⟩
    · rw [hb]; exact ho y (by simp)
    · exact ht2 q hq r hr
    · exact ho q.1 (by simp only [List.map_cons, List.mem_cons, List.mem_map, List.mem_append]; exact .inr ⟨q, .inl hq, rfl⟩)
    · exact ho q.1 (by simp only [List.map_cons, List.mem_cons, List.mem_map, List.mem_append]; exact .inr ⟨q, .inr hq, rfl⟩)
  · intro q hq
    rcases List.mem_append.mp hq with hq | hq
    · exact ht1 q hq
    · exact hty q hq
end
end Mine
namespace Mine
open PySem PySem.W PyProof.Rows
theorem tx_str {xs : List Str} {i : Nat} {p : Tx} {v : Value} (h : (xs.map Tx.s)[i]? = some p) (hv : TxV p v) : ∃ q t, p = .s q ∧ v = .str q t := by
  rw [List.getElem?_map] at h
  cases e : xs[i]? with
  | none => rw [e] at h; cases h
  | some q => rw [e] at h; cases h; cases hv with | s _ t => exact ⟨q, t, rfl, rfl⟩
theorem tx_bytes {xs : List (Array UInt8)} {i : Nat} {p : Tx} {v : Value} (h : (xs.map Tx.b)[i]? = some p) (hv : TxV p v) : ∃ q t, p = .b q ∧ v = .bytes q t := by
  rw [List.getElem?_map] at h
  cases e : xs[i]? with
  | none => rw [e] at h; cases h
  | some q => rw [e] at h; cases h; cases hv with | b _ t => exact ⟨q, t, rfl, rfl⟩
end Mine
namespace Mine
open PySem PySem.W PyProof.Rows
section
variable {s : Shared} {h₀ : Heap} {x : Str} {y dx L : Addr} {xs : List Tx} {i : Nat} {p : Tx} {m₀ m' : Str → Option Value} {news own tl : List (Addr × Obj)} {its : List Value} {n n0 : Nat} {f : List (Tx × Tx) → Tx → List (Tx × Tx)} {ps : List (Tx × Tx)} {h h' : Heap} {tk tk' : Nat} {u : Option Value}
theorem walk_end_up (F : Fr h₀ L h' m') (N : News h₀ L h' ((y, accObj dx its.toArray.pop n) :: (tl ++ (news ++ own)))) (hp : xs[i]? = some p) (hoff : OwnOff own (((y, accObj dx its.toArray n0) :: (tl ++ news)).map (·.1))) (hty : ∀ p ∈ tl, p.1 ≠ y)
    (hQ : Pairs (tl ++ news) its ((xs.take i).foldl f ps)) (hf : f ((xs.take i).foldl f ps) p = ((xs.take i).foldl f ps).dropLast) (hm : m' = fun z => if z = x then u else m₀ z) :
    InvEndG h₀ L (WalkJ x f ps xs y dx news m₀ (i + 1)) own { s with heap := h, toks := tk } { s with heap := h', toks := tk' } :=
  walk_end (tl' := []) (its := its.dropLast) F N hp hoff hty (by simp) (by rw [hf]; exact hQ.pop) (fun _ h => nomatch h) (fun _ h => nomatch h) (fun q hq => hq) hm
theorem walk_end_still (F : Fr h₀ L h' m') (N : News h₀ L h' ((y, accObj dx its.toArray n) :: (tl ++ (news ++ own)))) (hp : xs[i]? = some p) (hoff : OwnOff own (((y, accObj dx its.toArray n0) :: (tl ++ news)).map (·.1))) (hty : ∀ p ∈ tl, p.1 ≠ y)
    (hQ : Pairs (tl ++ news) its ((xs.take i).foldl f ps)) (hf : f ((xs.take i).foldl f ps) p = (xs.take i).foldl f ps) (hm : m' = fun z => if z = x then u else m₀ z) :
    InvEndG h₀ L (WalkJ x f ps xs y dx news m₀ (i + 1)) own { s with heap := h, toks := tk } { s with heap := h', toks := tk' } :=
  walk_end (tl' := []) (its := its) F N hp hoff hty rfl (by rw [hf]; exact hQ) (fun _ h => nomatch h) (fun _ h => nomatch h) (fun q hq => hq) hm
theorem walk_end_push {tp : Addr} {va vb : Value} {a b : Tx} (F : Fr h₀ L h' m') (N : News h₀ L h' ((y, accObj dx (its.toArray.push (.ref tp)) n) :: (tp, tupObj [va, vb]) :: (tl ++ (news ++ own)))) (hp : xs[i]? = some p) (hoff : OwnOff own (((y, accObj dx its.toArray n0) :: (tl ++ news)).map (·.1))) (hty : ∀ p ∈ tl, p.1 ≠ y)
    (hQ : Pairs (tl ++ news) its ((xs.take i).foldl f ps)) (hl : ∀ p ∈ tl ++ (news ++ own), p.1 < tp) (hy : y < tp) (ha : TxV a va) (hb : TxV b vb) (hf : f ((xs.take i).foldl f ps) p = (xs.take i).foldl f ps ++ [(a, b)]) (hm : m' = fun z => if z = x then u else m₀ z) :
    InvEndG h₀ L (WalkJ x f ps xs y dx news m₀ (i + 1)) own { s with heap := h, toks := tk } { s with heap := h', toks := tk' } := by
  refine walk_end (tl' := [(tp, tupObj [va, vb])]) (its := its ++ [.ref tp]) F N hp hoff hty (by simp) ?_ ?_ ?_ (fun q hq => hq) hm
  · rw [hf]
    refine Pairs.snoc (hQ.mono fun q hq => ?_) (.head _) ha hb
    exact .tail _ hq
  · intro q hq
    rw [List.mem_singleton.mp hq]
    exact Nat.ne_of_gt hy
  · intro q hq r hr
    rw [List.mem_singleton.mp hq]
    exact Nat.ne_of_lt (hl r (List.mem_append.mpr (.inr (List.mem_append.mpr (.inr hr)))))
end
theorem ws_up {sep up : Tx} {still : List Tx} {ps : List (Tx × Tx)} {p : Tx} (h : p = up) : walkStep sep up still ps p = ps.dropLast := by unfold walkStep; rw [if_pos h]
theorem ws_still {sep up : Tx} {still : List Tx} {ps : List (Tx × Tx)} {p : Tx} (h : p ≠ up) (h2 : p ∈ still) : walkStep sep up still ps p = ps := by unfold walkStep; rw [if_neg h, if_pos h2]
theorem ws_push {sep up : Tx} {still : List Tx} {ps : List (Tx × Tx)} {p : Tx} (h : p ≠ up) (h2 : p ∉ still) : walkStep sep up still ps p = ps ++ [(sep, p)] := by unfold walkStep; rw [if_neg h, if_neg h2]
theorem tx_eq {q r : Str} (h : (q == r) = true) : Tx.s q = Tx.s r := by simpa using h
theorem tx_ne {q r : Str} (h : (q == r) = false) : Tx.s q ≠ Tx.s r := by simpa using h
theorem tx_in {q a b : Str} (h : ([a, b].any fun x => x == q) = true) : Tx.s q ∈ [Tx.s a, Tx.s b] := by
  simp at h ⊢
  rcases h with h | h
  · exact .inl h.symm
  · exact .inr h.symm
theorem tx_notin {q a b : Str} (h : ([a, b].any fun x => x == q) = false) : Tx.s q ∉ [Tx.s a, Tx.s b] := by
  simp at h ⊢
  exact ⟨fun e => h.1 e.symm, fun e => h.2 e.symm⟩
end Mine
end
section
open PySem PySem.W PyProof.Rows PySem.Calls
set_option maxRecDepth 100000
set_option maxHeartbeats 1000000
namespace Mine
theorem li_kind : builtinKind "list.__iter__" = some .slot := by decide +kernel
theorem li_split : splitId "list.__iter__" = some ("list", "__iter__") := by decide +kernel
def SeqAt (h : Heap) (l : Addr) (items : Array Value) : Prop := ∃ o n, h.get? l = some o ∧ o.data = .seq items n
theorem SeqAt.keep {h h' : Heap} {l : Addr} {its : Array Value} (x : SeqAt h l its) (k : ∀ o, h.get? l = some o → h'.get? l = some o) : SeqAt h' l its := by
  obtain ⟨o, n, a, b⟩ := x; exact ⟨o, n, k o a, b⟩
section
variable {prog : Program} {w : World} {A : Around} {E : Value → Shared → Prop} {s : Shared} {K : Frag}
theorem iter_acc {x dx : Addr} {its : Array Value} {n : Nat} {Q : Value → Shared → Prop} (X : K.In s.heap) (hov : listOver K 101 = true) (hf : findIn K (.ref 101) "__iter__" = some (some (.builtin "list.__iter__"))) (hx : s.heap.get? x = some (accObj dx its n))
    (hQ : Q (.ref s.heap.objs.size) { s with heap := s.heap.push { cls := .type "list_iterator", data := .fields #[.ref x, .int 0 0] } }) :
    wpAny (model prog w) A (pyIter (.ref x)) Q E s := by
  have ht : Looks (model prog w) s.heap (typeOf (.ref x)) (.ref 101) := (Looks.ld hx).andThen .now
  have hlk := looks_findIn (M := model prog w) X hf
  have hi : Looks (model prog w) s.heap (isInstance (.ref x) (.type "list")) true := Looks.andThen ht (looks_mroIn X (listOver_in hov (.inl rfl)))
  unfold pyIter specialOf
  refine wpAny_bind (wpAny_bind (ht.at (hlk.at ?_)))
  dsimp only
  simp only [callSpecialIfBoundUnlessNone?, bindSpecialIfBound?, specialOf]
  refine wpAny_bind (wpAny_holding (wpAny_bind (wpAny_bind (wpAny_bind (ht.at (hlk.at ?_))))))
  simp only [slot_list_iter.bind]
  refine wpAny_bind (wpAny_askSetting (wpAny_ite ?_))
  have fin : wpAny (model prog w) A (call (.builtin "list.__iter__") [.ref x]) (fun it s' => ∃ r, s'.TypeIs it "list_iterator" ∧ typeLookup (.type "list_iterator") "__next__" = pure (some r) ∧ Q it s') E s := by
    refine wpAny_call (codeAny_call_builtin (by decide +kernel) entry_list_iter ?_)
    refine @check_slot (model prog w) _ _ s "list.__iter__" "list" "__iter__" (.ref x) [] [] _ li_kind li_split hi (args_list_iter _) ?_
    show wpAny _ _ (do ret (← newFields "list_iterator" [.ref x, rawInt 0])) _ _ s
    exact wpAny_bind (wpAny_newObj_type (wpAny_pure ⟨_, ⟨_, Heap.get?_push_size _ rfl, rfl⟩, slot_listiter_next.lookup, hQ⟩))
  have fin2 : wpAny (model prog w) A (if (Value.builtin "list.__iter__" == Value.none) = true then ((do rule "iter.none"; raiseError "TypeError" s!"'{← typeNameOf (.ref x)}' object is not iterable") >>= fun v => pure (some v)) else (call (.builtin "list.__iter__") [.ref x] >>= fun v => pure (some v)))
      (fun r s' => match r with | some it => ∃ r, s'.TypeIs it "list_iterator" ∧ typeLookup (.type "list_iterator") "__next__" = pure (some r) ∧ Q it s' | none => False) E s := by
    simp only [builtin_beq_none, Bool.false_eq_true, if_false]
    exact wpAny_bind (wpAny_mono fin (fun v s' h' => wpAny_pure h') fun _ _ h' => h')
  have go : ∀ r s', (match r with | some it => ∃ r, s'.TypeIs it "list_iterator" ∧ typeLookup (.type "list_iterator") "__next__" = pure (some r) ∧ Q it s' | none => False) →
      wpAny (model prog w) A (match r with
        | some it => (do match ← specialOf it "__next__" with
            | none => (do rule "iter.non-iterator"; raiseError "TypeError" s!"iter() returned non-iterator of type '{← typeNameOf it}'")
            | some _ => pure it : Sem Value)
        | none => (do match ← bindSpecialIfBound? (.ref x) "__getitem__" with
            | none => (do rule "iter.not-iterable"; raiseError "TypeError" s!"'{← typeNameOf (.ref x)}' object is not iterable")
            | some _ => (do rule "iter.getitem-fallback"; newFields "iterator" [.ref x, ← mkInt 0]))) Q E s' := by
    intro r s' h
    cases r with
    | none => exact h.elim
    | some it =>
      obtain ⟨r, h1, h2, h3⟩ := h
      exact wpAny_bind (wpAny_specialOf h1 h2 (wpAny_pure h3))
  split
  · exact wpAny_bind (wpAny_pure (wpAny_pure (wpAny_mono fin2 go fun _ _ h' => h')))
  · exact wpAny_tryCatch (wpAny_bind (wpAny_pure (wpAny_pure (wpAny_mono fin2 go fun _ _ h' => h'))))
theorem next_item {it l : Addr} {i : Nat} {items} {x : Value} {Q : Option Value → Shared → Prop} (hit : s.heap.IsListIter it l i)
    (hl : SeqAt s.heap l items) (hx : items[i]? = some x)
    (hQ : ∀ h', h'.IsListIter it l (i + 1) → Heap.SameBut it s.heap h' → Q (some x) { s with heap := h' }) :
    wpAny (model prog w) A (pyNext (.ref it)) Q E s := by
  obtain ⟨o, ho, hc, hd⟩ := id hit
  obtain ⟨ol, nl, hol, hdl⟩ := hl
  unfold pyNext
  refine wpAny_bind (wpAny_attempt (wpAny_callSpecial?_slot (name := Str.ofString "__next__") hit.typeIs slot_listiter_next
    (wpAny_call_entry slot_listiter_next hit.typeIs entry_listiter_next ?_ (args_listiter_next _))))
  show wpAny _ _ (field (.ref it) 0 >>= _) _ _ s
  refine wpAny_bind (wpAny_field ho hd (x := .ref l) rfl ?_)
  show wpAny _ _ (if (Value.ref l == Value.none) = true then _ else _) _ _ s
  rw [if_neg (show ¬ ((Value.ref l == Value.none) = true) from Bool.false_ne_true)]
  show wpAny _ _ (field (.ref it) 1 >>= _) _ _ s
  refine wpAny_bind (wpAny_field ho hd (x := .int i 0) rfl ?_)
  show wpAny _ _ (seqItems? (.ref l) >>= _) _ _ s
  refine wpAny_bind (wpAny_seqItems hol hdl ?_)
  simp only [Int.toNat_natCast, hx]
  refine wpAny_bind (wpAny_setField ho hd (by simp) (wpAny_pure ⟨x, rfl, wpAny_pure (hQ _ ?_ (Heap.SameBut.update ..))⟩))
  exact ⟨_, Heap.get?_update_self _ ho (Obj.isFreed_of_fields (Obj.data_mapFields hd _)), (Obj.cls_mapFields ..).trans hc, by
    rw [Obj.data_mapFields hd]; simp [rawInt]⟩
/-- raising StopIteration and seeing it, whatever is being handled -/
theorem stop_hv {α : Type} {H : Hv} {Q : α → Shared → Prop} (hh : A.handled = H.val) (hc : H.On s.heap)
    (hQ : ∀ h' e, (∀ b o, s.heap.get? b = some o → h'.get? b = some o) → s.heap.get? e = none → (∃ o, h'.get? e = some o ∧ o.cls = .type "StopIteration") → E (.ref e) { s with heap := h' }) :
    wpAny (model prog w) A (newExc (.type "StopIteration") [] >>= fun e => (raiseNew e : Sem α)) Q E s := by
  refine wpAny_bind ?_
  simp only [newExc, newTuple]
  refine wpAny_bind (wpAny_newObj_type ?_ (by size_fits))
  refine wpAny_bind (m := firstArgMember _ _) (wpAny_of_eq (a := Value.none) (by first | rfl | (simp only [firstArgMember]; rfl)) ?_)
  refine wpAny_newObj_type ?_ (by size_fits)
  have k : ∀ b o, s.heap.get? b = some o → ((s.heap.push { cls := .type "tuple", data := .seq #[] }).push { cls := .type "StopIteration", data := .fields (#[.ref s.heap.objs.size, .none, .none, .none, .bool false, .none] ++ ownMembersOf (.type "StopIteration") []) }).get? b = some o :=
    fun b o e => Heap.get?_push_of_some _ (Heap.get?_push_of_some _ e)
  have hsz : (s.heap.push { cls := .type "tuple", data := .seq #[] }).objs.size = s.heap.objs.size + 1 := Heap.size_push ..
  have hna : (s.heap.push { cls := .type "tuple", data := .seq #[] }).objs.size ∉ H.addrs := fun hm => by
    obtain ⟨o, ho⟩ := hc.lt _ hm
    exact absurd (Heap.lt_size ho) (by rw [hsz]; exact Nat.not_lt_of_le (Nat.le_succ _))
  refine raise_hv (H := H) hh (hc.keep fun b _ o e => k b o e) hna (Heap.get?_push_size _ rfl) rfl (by show 2 < _; simp [ownMembersOf]) fun h' vs' hs' hg hv => ?_
  refine hQ h' _ (fun b o e => hs'.extBut b o (fun q => ?_) (k b o e)) (Heap.get?_none_of_le (by show s.heap.objs.size ≤ (s.heap.push _).objs.size; rw [hsz]; exact Nat.le_succ _)) ⟨_, hg, rfl⟩
  have h1 := Heap.lt_size e
  rw [q] at h1
  exact absurd h1 (by show ¬ (s.heap.push _).objs.size < s.heap.objs.size; rw [hsz]; exact Nat.not_lt_of_le (Nat.le_succ _))
theorem next_end_hv {H : Hv} {it l : Addr} {i : Nat} {items} {Q : Option Value → Shared → Prop} (hh : A.handled = H.val) (hc : H.On s.heap) (hih : it ∉ H.addrs)
    (hit : s.heap.IsListIter it l i) (hl : SeqAt s.heap l items) (hx : items[i]? = none)
    (hQ : ∀ h', Heap.ExtBut it s.heap h' → Q none { s with heap := h' }) : wpAny (model prog w) A (pyNext (.ref it)) Q E s := by
  obtain ⟨o, ho, hcl, hd⟩ := id hit
  obtain ⟨ol, nl, hol, hdl⟩ := hl
  unfold pyNext
  refine wpAny_bind (wpAny_attempt (wpAny_callSpecial?_slot (name := Str.ofString "__next__") hit.typeIs slot_listiter_next
    (wpAny_call_entry slot_listiter_next hit.typeIs entry_listiter_next ?_ (args_listiter_next _))))
  show wpAny _ _ (field (.ref it) 0 >>= _) _ _ s
  refine wpAny_bind (wpAny_field ho hd (x := .ref l) rfl ?_)
  show wpAny _ _ (if (Value.ref l == Value.none) = true then _ else _) _ _ s
  rw [if_neg (show ¬ ((Value.ref l == Value.none) = true) from Bool.false_ne_true)]
  show wpAny _ _ (field (.ref it) 1 >>= _) _ _ s
  refine wpAny_bind (wpAny_field ho hd (x := .int i 0) rfl ?_)
  show wpAny _ _ (seqItems? (.ref l) >>= _) _ _ s
  refine wpAny_bind (wpAny_seqItems hol hdl ?_)
  simp only [Int.toNat_natCast, hx]
  refine wpAny_bind (wpAny_rule (wpAny_bind (wpAny_setField ho hd (by simp) ?_)))
  show wpAny _ A.in1 (newExc (.type "StopIteration") [] >>= fun e => raiseNew e) _ _ _
  refine stop_hv (H := H) hh (hc.keep fun b hb o e => (Heap.SameBut.update ..).extBut b o (fun q => hih (q ▸ hb)) e) fun h' e k _ hst => ?_
  obtain ⟨oe, he, hcls⟩ := hst
  refine wpAny_bind (wpAny_isInstance (T := "StopIteration") (b := true) ⟨_, he, hcls⟩ isSubtype_stop ?_)
  exact wpAny_pure (hQ _ fun b o hb e => k b o ((Heap.SameBut.update ..).extBut b o hb e))
end
end Mine
end
section
open PySem PySem.W PyProof.Rows PySem.Calls
set_option maxRecDepth 100000
set_option maxHeartbeats 1000000
namespace Mine
section
variable {prog : Program} {w : World} {A : Around} {E : Value → Shared → Prop} {s : Shared} {H : Hv}
theorem tup_end_hv {it t : Addr} {i : Nat} {items} {Q : Option Value → Shared → Prop} (hh : A.handled = H.val) (hc : H.On s.heap) (hih : it ∉ H.addrs)
    (hit : s.heap.IsTupleIter it t i) (ht : s.heap.IsTuple t items) (hx : items[i]? = none)
    (hQ : ∀ h', Heap.ExtBut it s.heap h' → Q none { s with heap := h' }) : wpAny (model prog w) A (pyNext (.ref it)) Q E s := by
  obtain ⟨o, ho, hcl, hd⟩ := id hit
  obtain ⟨ol, hol, _, nl, hdl⟩ := ht
  unfold pyNext
  refine wpAny_bind (wpAny_attempt (wpAny_callSpecial?_slot (name := Str.ofString "__next__") hit.typeIs F.slot_tuple_iterator_next
    (wpAny_call_entry F.slot_tuple_iterator_next hit.typeIs F.entry_tuple_iterator_next ?_ (F.args_tuple_iterator_next_1 _))))
  show wpAny _ _ (field (.ref it) 0 >>= _) _ _ s
  refine wpAny_bind (wpAny_field ho hd (x := .ref t) rfl ?_)
  show wpAny _ _ (if (Value.ref t == Value.none) = true then _ else _) _ _ s
  rw [if_neg (show ¬ ((Value.ref t == Value.none) = true) from Bool.false_ne_true)]
  show wpAny _ _ (field (.ref it) 1 >>= _) _ _ s
  refine wpAny_bind (wpAny_field ho hd (x := .int i 0) rfl ?_)
  show wpAny _ _ (seqItems? (.ref t) >>= _) _ _ s
  refine wpAny_bind (wpAny_seqItems hol hdl ?_)
  simp only [Int.toNat_natCast, hx]
  refine wpAny_bind (wpAny_rule (wpAny_bind (wpAny_setField ho hd (by simp) ?_)))
  show wpAny _ A.in1 (newExc (.type "StopIteration") [] >>= fun e => raiseNew e) _ _ _
  refine stop_hv (H := H) hh (hc.keep fun b hb o e => (Heap.SameBut.update ..).extBut b o (fun q => hih (q ▸ hb)) e) fun h' e k _ hst => ?_
  obtain ⟨oe, he, hcls⟩ := hst
  refine wpAny_bind (wpAny_isInstance (T := "StopIteration") (b := true) ⟨_, he, hcls⟩ isSubtype_stop ?_)
  exact wpAny_pure (hQ _ fun b o hb e => k b o ((Heap.SameBut.update ..).extBut b o hb e))
theorem fresh_hv {h : Heap} (hc : H.On h) : h.objs.size ∉ H.addrs := fun hm => by
  obtain ⟨o, ho⟩ := hc.lt _ hm
  exact Nat.lt_irrefl _ (Heap.lt_size ho)
theorem unpack_hv {t : Addr} {items : Array Value} {Q : List Value → Shared → Prop} (hh : A.handled = H.val) (hc : H.On s.heap) (ht : s.heap.IsTuple t items)
    (hQ : ∀ h', Heap.ExtBut s.heap.objs.size s.heap h' → Q items.toList { s with heap := h' }) : wpAny (model prog w) A (unpackItems (.ref t) items.size none) Q E s := by
  have hlt : t ≠ s.heap.objs.size := by obtain ⟨o, ho, _⟩ := ht; exact Nat.ne_of_lt (Heap.lt_size ho)
  unfold unpackItems notIterableAtAll
  refine wpAny_bind (wpAny_bind (wpAny_specialOf ht.typeIs F.slot_tuple_iter.lookup ?_))
  refine wpAny_pure ?_
  simp only [Bool.false_eq_true, if_false]
  refine wpAny_bind (wpAny_holding (wpAny_pyIter_tuple ht ?_))
  refine wpAny_bind (wpAny_holding (wpAny_draw_tuple hlt items.size 0 _ _ ⟨_, Heap.get?_push_size _ rfl, rfl, rfl⟩ (ht.push _) (by omega) fun h₁ hit₁ hs₁ => ?_))
  have hall : List.take items.size (List.drop 0 items.toList) = items.toList := by
    rw [List.drop_zero]; exact List.take_of_length_le (by simp)
  rw [hall, if_neg (by simp)]
  have ht₁ : h₁.IsTuple t items := (ht.push _).extBut hs₁.extBut hlt
  have up : ∀ b o, b ≠ s.heap.objs.size → s.heap.get? b = some o → h₁.get? b = some o := fun b o hb e => hs₁.extBut b o hb (Heap.get?_push_of_some _ e)
  refine wpAny_bind (wpAny_holding (tup_end_hv (H := H) hh (hc.keep fun b hb o e => up b o (fun q => fresh_hv hc (q ▸ hb)) e) (fresh_hv hc) hit₁ ht₁ (by simp) fun h₂ he₂ => ?_))
  simp only [Option.isSome_none, Bool.false_eq_true, if_false]
  exact wpAny_pure (hQ h₂ fun b o hb e => he₂ b o hb (up b o hb e))
theorem assign_tup_hv {env : Env} {elts : List Expr} {x1} {pos : Pos} {t : Addr} {items : Array Value} {Q : Unit → Shared → Prop} (hh : A.handled = H.val) (hc : H.On s.heap) (ht : s.heap.IsTuple t items)
    (hn : (assignEach elts env).length = items.size) (hstar : (assignEach elts env).findIdx? (·.1) = none)
    (h : ∀ h', Heap.ExtBut s.heap.objs.size s.heap h' → wpAny (model prog w) A (assignInOrder ((assignEach elts env).map (·.2)) items.toList) Q E { s with heap := h' }) :
    wpAny (model prog w) A (assign (.Tuple elts x1 pos) env (.ref t)) Q E s := by
  rw [arm_assign_Tuple]
  refine wpAny_bind (wpAny_standAt ?_)
  unfold unpack
  rw [hn, hstar]
  exact wpAny_bind (wpAny_holding (unpack_hv hh hc ht h))
end
/-- the accumulator's pairs as a source, whatever is being handled -/
theorem walks_pairs {prog : Program} {w : World} {A : Around} {H : Hv} (hh : A.handled = H.val) (I ax : Addr) (hne : ax ≠ I) (hIH : I ∉ H.addrs) (items : Array Value) (Ts : Nat → Addr) (vals : Nat → Array Value)
    (hit : ∀ j, j < items.size → items[j]? = some (.ref (Ts j))) (hTI : ∀ j, j < items.size → Ts j ≠ I) :
    WalksU prog w A I (I :: ax :: (H.addrs ++ (List.range items.size).map Ts)) [I] items.size (fun j v => v = vals j)
      (fun j h => h.IsListIter I ax j ∧ SeqAt h ax items ∧ (∀ k, k < items.size → h.IsTuple (Ts k) (vals k)) ∧ H.On h)
      (fun j T h => (j < items.size ∧ T = Ts j) ∧ h.IsListIter I ax (j + 1) ∧ SeqAt h ax items ∧ (∀ k, k < items.size → h.IsTuple (Ts k) (vals k)) ∧ H.On h) where
  sub := fun b hb => by simp at hb; simp [hb]
  frame := fun _ _ _ st hk => ⟨st.1.at fun o e => hk I (by simp) o e, st.2.1.keep fun o e => hk ax (by simp) o e,
    fun k hk' => (st.2.2.1 k hk').at fun o e => hk (Ts k) (List.mem_cons_of_mem _ (List.mem_cons_of_mem _ (List.mem_append.mpr (.inr (List.mem_map.mpr ⟨k, List.mem_range.mpr hk', rfl⟩))))) o e,
    st.2.2.2.keep fun b hb o e => hk b (List.mem_cons_of_mem _ (List.mem_cons_of_mem _ (List.mem_append.mpr (.inl hb)))) o e⟩
  item := fun i s Q E hi st hQ => by
    refine next_item st.1 st.2.1 (x := .ref (Ts i)) (hit i hi) fun h' hit' hs' => ?_
    have tup : ∀ k, k < items.size → h'.IsTuple (Ts k) (vals k) := fun k hk' => (st.2.2.1 k hk').extBut hs'.extBut (hTI k hk')
    exact hQ (Ts i) (vals i) h' s.toks rfl (tup i hi) ⟨⟨hi, rfl⟩, hit', st.2.1.keep (fun o e => hs'.extBut _ o hne e), tup, st.2.2.2.keep fun b hb o e => hs'.extBut b o (fun q => hIH (q ▸ hb)) e⟩ fun b o hb e => hs'.extBut b o (fun h => hb (by simp [h])) e
  go := fun _ _ _ _ _ s Q _ hm hQ => wpAny_letOwnedTupleGo_listiter hm.2.1 (hQ s.heap hm.2 fun _ _ _ e => e)
  apart := fun j T _ hm hmem => by
    rcases List.mem_cons.mp hmem with e | e
    · exact hTI j hm.1.1 (hm.1.2 ▸ e)
    · cases e
  done := fun s Q E st hQ => next_end_hv (H := H) hh st.2.2.2 hIH st.1 st.2.1 (by simp) fun h' he' => hQ h' s.toks fun b o hb e => he' b o (fun h => hb (by simp [h])) e
  self := fun _ _ _ _ st hQ => wpAny_pyIter_listiter st.1 hQ
end Mine
end
section
open PySem PySem.W PyProof.Rows PySem.Calls
set_option maxRecDepth 100000
set_option maxHeartbeats 1000000
namespace Mine
abbrev yes : Nat → Bool := fun _ => true
theorem pass_len (n i : Nat) : (passing yes n i).length = n - i := by
  unfold passing
  rw [List.filter_eq_self.mpr (by simp)]
  simp
theorem pass_at {n j : Nat} (h : j < n) : (passing yes n 0)[j]? = some j := by
  unfold passing
  rw [List.filter_eq_self.mpr (by simp), List.drop_zero]
  simp [h]
/-- what the generator's element gives for the pair at i -/
def EltOk (prog : Program) (w : World) (H : Hv) (cenv : Env) (xa xb : Str) (elt : Expr) (fp wr : List Addr) (n₀ : Nat) (Pt : Nat → Array Value → Prop) (F : Nat → Value → Prop) (href : Heap) (D U : Nat) : Prop :=
  ∀ (A' : Around) E' i va vb (s₂ : Shared) m₂, A'.handled = H.val → A'.depth ≤ D → A'.units ≤ U → i < n₀ → Pt i #[va, vb] → s₂.heap.Ns cenv.locals m₂ → m₂ xa = some va → m₂ xb = some vb → (∀ b ∈ fp, b ∉ wr → ∀ o, href.get? b = some o → s₂.heap.get? b = some o) →
    wpAny (model prog w) A' (eval elt cenv) (fun y s₃ => F i y ∧ Keeps s₂ s₃) E' s₂
section
variable {prog : Program} {w : World} {A : Around} {H : Hv} {elt iter : Expr} {xa xb : Str} {pa pb pt : Pos} {kt : Nat} {scope : Scope} {pos : Pos} {I : Addr} {fp wr : List Addr} {n₀ : Nat} {Pt : Nat → Array Value → Prop} {St₀ : Nat → Heap → Prop} {Mid : Nat → Addr → Heap → Prop} {cenv : Env}
theorem seg_loopH (hh : A.handled = H.val) (W₀ : ∀ A' : Around, A'.handled = H.val → WalksU prog w A' I fp wr n₀ Pt St₀ Mid) (hOn : ∀ i h, St₀ i h → H.On h) (hsz : ∀ i vals, Pt i vals → ∃ va vb, vals = #[va, vb]) (hab : xa ≠ xb) (F : Nat → Value → Prop) (href : Heap)
    (hxa : cenv.kindOf xa = some .local) (hxb : cenv.kindOf xb = some .local) (hp : (cenv.scope.kind == .class || (cenv.scope.kind == .module && cenv.locals != cenv.globals)) = false)
    (hco : cenv.scope.isCoroutine = false) (hCf : cenv.locals ∉ fp) (hq : EltOk prog w H cenv xa xb elt fp wr n₀ Pt F href (A.depth + 1) (A.units + 3)) :
    ∀ (k i : Nat) (s₀ s : Shared) (m : Str → Option Value), n₀ - i = k → i ≤ n₀ → St₀ i s.heap → s.heap.Ns cenv.locals m → GenSince cenv.locals wr s₀ s →
      (∀ b ∈ fp, b ∉ wr → ∀ o, href.get? b = some o → s.heap.get? b = some o) →
      Seg (model prog w) A (fun n s₀ r s₁ => r = .ok .next ∧ (n = 0 ∧ GenSince cenv.locals wr s₀ s₁)) (genProto cenv.locals fp wr yes n₀ F) (passing yes n₀ i).length s₀
        (.compLoop (.GeneratorExp elt [⟨.Tuple [.Name xa pa, .Name xb pb] kt pt, iter, [], 0⟩] scope pos) 0 (.ref I) .none cenv)
        ((model prog w).den (.compLoop (.GeneratorExp elt [⟨.Tuple [.Name xa pa, .Name xb pb] kt pt, iter, [], 0⟩] scope pos) 0 (.ref I) .none cenv)) [] s := by
  have hh' : (A.over (.compLoop (.GeneratorExp elt [⟨.Tuple [.Name xa pa, .Name xb pb] kt pt, iter, [], 0⟩] scope pos) 0 (.ref I) .none cenv) []).handled = H.val := hh
  have hdep' : (A.over (.compLoop (.GeneratorExp elt [⟨.Tuple [.Name xa pa, .Name xb pb] kt pt, iter, [], 0⟩] scope pos) 0 (.ref I) .none cenv) []).depth ≤ A.depth + 1 := Nat.le_of_eq rfl
  have huni' : (A.over (.compLoop (.GeneratorExp elt [⟨.Tuple [.Name xa pa, .Name xb pb] kt pt, iter, [], 0⟩] scope pos) 0 (.ref I) .none cenv) []).units ≤ A.units + 3 := Nat.le_of_eq rfl
  have hCw : cenv.locals ∉ wr := fun h => hCf ((W₀ A hh).sub _ h)
  intro k
  induction k with
  | zero =>
    intro i s₀ s m hk hi hst hn hsince hkp
    have hin : i = n₀ := by omega
    subst hin
    show Seg _ A _ _ _ s₀ _ ((compTurn (.GeneratorExp elt [⟨.Tuple [.Name xa pa, .Name xb pb] kt pt, iter, [], 0⟩] scope pos) 0 (.ref I) .none cenv).onRaise (leaving cenv)) [] s
    rw [compTurn_gen, Sem.onRaise_eq_wrap]
    refine seg_bind_wrap (wpAny_standAt ?_)
    refine seg_bind_wrap ((W₀ _ hh').done s _ _ hst fun h' tk hk' => ?_)
    exact seg_end (.ok .next) ⟨rfl, by rw [passing_end]; rfl, hsince.step fun b o _ hw e => hk' b o hw e⟩
  | succ k ih =>
    intro i s₀ s m hk hi hst hn hsince hkp
    have hlt : i < n₀ := by omega
    show Seg _ A _ _ _ s₀ _ ((compTurn (.GeneratorExp elt [⟨.Tuple [.Name xa pa, .Name xb pb] kt pt, iter, [], 0⟩] scope pos) 0 (.ref I) .none cenv).onRaise (leaving cenv)) [] s
    rw [compTurn_gen, Sem.onRaise_eq_wrap]
    refine seg_bind_wrap (wpAny_standAt ?_)
    refine seg_bind_wrap ((W₀ _ hh').item i s _ _ hlt hst fun T vals h₁ tk₁ hPv hT₁ hmid hk₁ => ?_)
    obtain ⟨va, vb, rfl⟩ := hsz i vals hPv
    refine seg_bind_wrap ((W₀ _ hh').go _ _ _ i T _ _ _ hmid fun h₁' hst₁ hk₁' => ?_)
    have hT₁' : h₁'.IsTuple T #[va, vb] := let ⟨o, e, r⟩ := hT₁; ⟨o, hk₁' _ o ((W₀ _ hh').apart i T _ hmid) e, r⟩
    refine seg_bind_wrap (assign_tup_hv (H := H) hh' (hOn _ _ hst₁) hT₁' rfl rfl fun h₁'' hx₁ => ?_)
    replace hx₁ : Heap.ExtBut h₁'.objs.size h₁' h₁'' := hx₁
    have old₁ : ∀ b o, h₁'.get? b = some o → h₁''.get? b = some o := fun b o e => hx₁ b o (Nat.ne_of_lt (Heap.lt_size e)) e
    show wpAny _ _ (do holding [vb] (assign (.Name xa pa) cenv va); do holding [] (assign (.Name xb pb) cenv vb); pure ()) _ _ _
    refine wpAny_bind (wpAny_holding (wpAny_assign_Name (wpAny_storeName_local hxa (hn.at' fun o e => old₁ _ o (hk₁' _ o hCw (hk₁ _ o hCw e))) (fun h₂a hn₂a hs₂a => ?_) hp)))
    replace hs₂a : Heap.SameBut cenv.locals h₁'' h₂a := hs₂a
    refine wpAny_bind (wpAny_holding (wpAny_assign_Name (wpAny_storeName_local hxb hn₂a (fun h₂ hn₂ hs₂ => wpAny_pure ?_) hp)))
    replace hs₂ : Heap.SameBut cenv.locals h₂a h₂ := hs₂
    have up₂ : ∀ b o, b ≠ cenv.locals → b ∉ wr → s.heap.get? b = some o → h₂.get? b = some o := fun b o hbC hbw e => hs₂.extBut b o hbC (hs₂a.extBut b o hbC (old₁ b o (hk₁' b o hbw (hk₁ b o hbw e))))
    have hst₂ : St₀ (i + 1) h₂ := (W₀ A hh).frame _ _ _ hst₁ fun b hb o e => hs₂.extBut b o (fun h => hCf (h ▸ hb)) (hs₂a.extBut b o (fun h => hCf (h ▸ hb)) (old₁ b o e))
    have hkp₂ : ∀ b ∈ fp, b ∉ wr → ∀ o, href.get? b = some o → h₂.get? b = some o := fun b hb hbw o e => up₂ b o (fun h => hCf (h ▸ hb)) hbw (hkp b hb hbw o e)
    refine seg_bind_wrap (wpAny_of_eq (rfl : (forIn ([] : List Expr) true fun c r => if r = true then do let ok ← isTrue c cenv (eval c cenv); pure (ForInStep.yield ok) else pure (ForInStep.yield r)) = pure true) ?_)
    have hsince₃ : GenSince cenv.locals wr s₀ { s with heap := h₂, toks := tk₁ } := hsince.step fun b o hbC hbw e => up₂ b o hbC hbw e
    rw [passing_true hlt rfl, List.length_cons]
    simp only [if_true]
    have hy : ∀ v, yieldOut cenv v = yieldValue v := fun v => by simp only [yieldOut, hco, Bool.false_eq_true, if_false]
    simp only [hy]
    rw [Sem.bind_eq_wrap', Sem.bind_eq_wrap', Sem.wrap_wrap, Sem.wrap_wrap]
    refine seg_wrap (wpAny_mono (hq _ _ i va vb _ _ hh' hdep' huni' hlt hPv hn₂ (by simp [hab]) (by simp) hkp₂) (fun y s₄ h₄ => ?_) fun _ _ e => e)
    obtain ⟨hFy, h₄, tk₄, rfl, hk₄⟩ := h₄
    refine seg_at (seg_yield rfl rfl rfl ⟨⟨i, passing_here hlt rfl, hFy⟩, hsince₃.step fun b o _ _ e => hk₄ b o e, fun s'' hal => ?_⟩)
    refine seg_again rfl (ih (i + 1) s'' s'' _ (by omega) hlt ((W₀ A hh).frame _ _ _ hst₂ fun b hb o e => hal b (List.mem_cons_of_mem _ hb) o (hk₄ b o e))
      ((hn₂.keeps hk₄).at' fun o e => hal _ (List.mem_cons_self ..) o e) (GenSince.refl _ _ _) fun b hb hbw o e => hal b (List.mem_cons_of_mem _ hb) o (hk₄ b o (hkp₂ b hb hbw o e)))
theorem seg_startH (hh : A.handled = H.val) (W₀ : ∀ A' : Around, A'.handled = H.val → WalksU prog w A' I fp wr n₀ Pt St₀ Mid) (hOn : ∀ i h, St₀ i h → H.On h) (hsz : ∀ i vals, Pt i vals → ∃ va vb, vals = #[va, vb]) (hab : xa ≠ xb) (F : Nat → Value → Prop) (href : Heap)
    (hxa : cenv.kindOf xa = some .local) (hxb : cenv.kindOf xb = some .local) (hp : (cenv.scope.kind == .class || (cenv.scope.kind == .module && cenv.locals != cenv.globals)) = false)
    (hco : cenv.scope.isCoroutine = false) (hCf : cenv.locals ∉ fp) (hq : EltOk prog w H cenv xa xb elt fp wr n₀ Pt F href (A.depth + 1) (A.units + 3))
    (s₀ s : Shared) (m : Str → Option Value) (hst : St₀ 0 s.heap) (hn : s.heap.Ns cenv.locals m) (hsince : GenSince cenv.locals wr s₀ s)
    (hkp : ∀ b ∈ fp, b ∉ wr → ∀ o, href.get? b = some o → s.heap.get? b = some o) :
    Seg (model prog w) A (fun n s₀ r s₁ => r = .ok .next ∧ (n = 0 ∧ GenSince cenv.locals wr s₀ s₁)) (genProto cenv.locals fp wr yes n₀ F) (passing yes n₀ 0).length s₀
      (.compStart (.GeneratorExp elt [⟨.Tuple [.Name xa pa, .Name xb pb] kt pt, iter, [], 0⟩] scope pos) 0 (.ref I) .none cenv)
      ((model prog w).den (.compStart (.GeneratorExp elt [⟨.Tuple [.Name xa pa, .Name xb pb] kt pt, iter, [], 0⟩] scope pos) 0 (.ref I) .none cenv)) [] s := by
  have hh' : (A.over (.compStart (.GeneratorExp elt [⟨.Tuple [.Name xa pa, .Name xb pb] kt pt, iter, [], 0⟩] scope pos) 0 (.ref I) .none cenv) []).handled = H.val := hh
  have loop := seg_loopH (iter := iter) (pa := pa) (pb := pb) (pt := pt) (kt := kt) (scope := scope) (pos := pos) hh W₀ hOn hsz hab F href hxa hxb hp hco hCf hq n₀ 0 s₀ s m (Nat.sub_zero _) (Nat.zero_le _) hst hn hsince hkp
  show Seg _ A _ _ _ s₀ _ ((compStart (.GeneratorExp elt [⟨.Tuple [.Name xa pa, .Name xb pb] kt pt, iter, [], 0⟩] scope pos) 0 (.ref I) .none cenv).onRaise (leaving cenv)) [] s
  unfold compStart
  rw [Sem.onRaise_eq_wrap]
  show Seg _ A _ _ _ s₀ _ ((ask >>= _).wrap _ _ _ _) [] s
  refine seg_bind_wrap (wpAny_askSetting ?_)
  split
  · exact seg_again rfl loop
  · refine seg_bind_wrap (wpAny_rule ?_)
    show Seg _ A _ _ _ s₀ _ ((standAt iter.pos >>= _).wrap _ _ _ _) [] s
    exact seg_bind_wrap (wpAny_standAt (seg_bind_wrap ((W₀ _ hh').self 0 s _ _ hst (seg_again rfl loop))))
end
end Mine
end
section
open PySem PySem.W PyProof.Rows PySem.Calls
set_option maxRecDepth 100000
set_option maxHeartbeats 1000000
namespace Mine
section
variable {prog : Program} {w : World} {A : Around} {E : Value → Shared → Prop} {s : Shared} {H : Hv}
theorem next_genH {a : Addr} {g n : Nat} {gs : GenState} {P : Nat → Shared → Shared → Prop} {Y : Protocol} {Q : Option Value → Shared → Prop} (hh : A.handled = H.val)
    (hl : s.heap.NoLimit) (hroom : A.depth < recursionLimit)
    (hg : s.heap.IsGen a g) (hgs : s.gens[g]? = some gs)
    (hgo : gs.Goes (model prog w) A.in1 (fun n s₀ r s₁ => r = .ok .next ∧ P n s₀ s₁) Y n (.send .none) (s.setGen g .running))
    (hY : ∀ v s₁ gs', gs'.bare = true → Y (n - 1) (s.setGen g .running) v s₁ (fun r' s'' => match n with
        | 0 => False
        | m + 1 => gs'.Goes (model prog w) A.in1 (fun n s₀ r s₁ => r = .ok .next ∧ P n s₀ s₁) Y m r' s'') → Q (some v) (s₁.setGen g gs'))
    (hPo : ∀ s₁, P n (s.setGen g .running) s₁ → H.On s₁.heap)
    (hP : ∀ s₁, P n (s.setGen g .running) s₁ → ∀ h', (∀ b o, s₁.heap.get? b = some o → h'.get? b = some o) → Q none { s₁.setGen g .finished with heap := h' }) :
    wpAny (model prog w) A (pyNext (.ref a)) Q E s := by
  unfold pyNext
  refine wpAny_bind (wpAny_attempt (wpAny_callSpecial?_slot (name := Str.ofString "__next__") hg.typeIs slot_gen_next
    (wpAny_call_entry slot_gen_next hg.typeIs entry_gen_next ?_ (args_gen_next _))))
  show wpAny _ A.in1 (Builtin.Generator.genWake (.ref a) (.send .none)) _ _ s
  unfold Builtin.Generator.genWake
  refine wpAny_bind (wpAny_holding (wpAny_genNumber hg (wpAny_bind (wpAny_genState hgs ?_))))
  cases gs with
  | running => exact hgo.elim
  | finished => exact hgo.elim
  | _ =>
    refine wpAny_bind (wpAny_roomToWake hl hroom ?_)
    show wpAny _ A.in1 (.resume g (.send .none) [] _) _ _ s
    refine wpAny_resumeQ hgs hgo (fun x s₁ hx => ?_) (fun v s₁ gs' hb hv => ?_)
    · obtain ⟨rfl, hp⟩ := hx
      show wpAny _ A.in1 ((newExc (.type "StopIteration") [] >>= fun e => raiseNew e) >>= _) _ _ _
      refine wpAny_bind (stop_hv (H := H) hh (hPo s₁ hp) fun h' e k _ hst => ?_)
      obtain ⟨oe, he, hcls⟩ := hst
      refine wpAny_bind (wpAny_isInstance (T := "StopIteration") (b := true) ⟨_, he, hcls⟩ isSubtype_stop ?_)
      exact wpAny_pure (hP s₁ hp _ fun b o hb => k b o hb)
    · exact wpAny_pure ⟨v, rfl, wpAny_pure (hY v s₁ gs' hb hv)⟩
end
theorem seg_nat {n j m : Nat} (h : n - 0 - j = m + 1) (hj : j < n) : n - 0 - 1 - (m + 1 - 1) = j ∧ n - 0 - (j + 1) = m := by
  obtain ⟨k, rfl⟩ : ∃ k, n = j + k := ⟨n - j, (Nat.add_sub_cancel' (Nat.le_of_lt hj)).symm⟩
  rw [Nat.sub_zero, Nat.add_sub_cancel_left] at h
  subst h
  exact ⟨Nat.add_sub_cancel j m, by rw [Nat.sub_zero, Nat.add_comm m 1, ← Nat.add_assoc, Nat.add_sub_cancel_left]⟩
section
variable {prog : Program} {w : World} {A : Around} {H : Hv}
theorem walksS_H (hh : A.handled = H.val) (a : Addr) (g : Nat) (C : Addr) (fp wr : List Addr) (n₀ : Nat) (F : Nat → Value → Prop) (haC : a ≠ C) (haf : a ∉ fp) (hsub : ∀ b ∈ wr, b ∈ fp)
    (hroom : A.depth < recursionLimit) (hcs : cStatics ∈ fp) (hcC : cStatics ≠ C) (hcw : cStatics ∉ wr) (hHf : ∀ b ∈ H.addrs, b ∈ fp ∧ b ∉ wr ∧ b ≠ C) :
    WalksS prog w A a (a :: C :: fp) (C :: wr) (GenOnlyQ g) n₀ (fun j y => F j y) (fun j s => GenAt prog w A a g C fp wr yes n₀ F j s ∧ H.On s.heap) where
  sub := fun b hb => by
    rcases List.mem_cons.mp hb with rfl | hb
    · simp
    · exact List.mem_cons_of_mem _ (List.mem_cons_of_mem _ (hsub b hb))
  grefl := fun _ => .inl rfl
  gtrans := fun _ _ _ x y => x.trans y
  frame := fun j s h' tk st _ hk =>
    ⟨⟨let ⟨o, nm, qn, ho, r⟩ := st.1.1; ⟨o, nm, qn, hk a (List.mem_cons_self ..) o ho, r⟩,
      (let ⟨mc, hns, hnn⟩ := st.1.2.1; ⟨mc, hns.at' fun o e => hk cStatics (List.mem_cons_of_mem _ (List.mem_cons_of_mem _ hcs)) o e, hnn⟩),
      let ⟨gs, hgs, hgo⟩ := st.1.2.2; ⟨gs, hgs, fun s'' hal => hgo s'' fun b hb o e => hal b hb o (hk b (List.mem_cons_of_mem _ hb) o e)⟩⟩,
     st.2.keep fun b hb o e => hk b (List.mem_cons_of_mem _ (List.mem_cons_of_mem _ (hHf b hb).1)) o e⟩
  item := fun j s Q E hj st hQ => by
    obtain ⟨⟨hg, hl, gs, hgs, hgo⟩, hOn⟩ := st
    rw [pass_len] at hgo
    obtain ⟨m, hm⟩ : ∃ m, n₀ - 0 - j = m + 1 := ⟨n₀ - 0 - j - 1, (Nat.succ_pred_eq_of_pos (Nat.sub_pos_of_lt hj)).symm⟩
    have hsn := seg_nat hm hj
    rw [hm] at hgo
    refine wpAny_with_toks (Nat.le_refl s.toks) ?_
    refine next_genH (H := H) (P := fun n s₀ s₁ => n = 0 ∧ GenSince C wr s₀ s₁) hh hl hroom hg hgs (hgo _ fun _ _ _ e => e) (fun v s₁ gs' hb hv => ?_) (fun s₁ hp => ?_) (fun s₁ hp h' hk => ?_)
    · obtain ⟨⟨i, hi, hF⟩, ⟨h₁, tk₁, rfl, hk₁⟩, hkap⟩ := hv
      have hidx : (passing yes n₀ 0).length - 1 - (m + 1 - 1) = j := by rw [pass_len]; exact hsn.1
      rw [hidx, pass_at hj] at hi
      obtain rfl := Option.some.inj hi
      have haw : a ∉ wr := fun h => haf (hsub a h)
      intro htk
      refine hQ v _ hF ⟨⟨let ⟨o, nm, qn, ho, r⟩ := hg; ⟨o, nm, qn, hk₁ a o haC haw ho, r⟩, (let ⟨mc, hns, hnn⟩ := hl; ⟨mc, hns.at' fun o e => hk₁ cStatics o hcC hcw e, hnn⟩), gs', setGen_self (gs := .running) (setGen_self hgs), fun s'' hal => ?_⟩, hOn.keep fun b hb o e => hk₁ b o (hHf b hb).2.2 (hHf b hb).2.1 e⟩
        ⟨fun b o hb e => hk₁ b o (fun h => hb (h ▸ List.mem_cons_self ..)) (fun h => hb (List.mem_cons_of_mem _ h)) e, GenOnlyQ.of ((GenOnly.setGen s g .running).trans (GenOnly.setGen _ g gs')) (setGen_self (gs := .running) (setGen_self hgs)) hb, rfl, rfl, htk⟩
      have e : (passing yes n₀ 0).length - (j + 1) = m := by rw [pass_len]; exact hsn.2
      rw [e]
      exact hkap s'' hal
    · exact absurd hp.1 (Nat.succ_ne_zero m)
    · exact absurd hp.1 (Nat.succ_ne_zero m)
  done := fun s Q E st hQ => by
    obtain ⟨⟨hg, hl, gs, hgs, hgo⟩, hOn⟩ := st
    rw [pass_len, Nat.sub_zero, Nat.sub_self] at hgo
    refine wpAny_with_toks (Nat.le_refl s.toks) ?_
    refine next_genH (H := H) (P := fun n s₀ s₁ => n = 0 ∧ GenSince C wr s₀ s₁) hh hl hroom hg hgs (hgo _ fun _ _ _ e => e) (fun v s₁ gs' hb hv => ?_) (fun s₁ hp => ?_) (fun s₁ hp h' hk => ?_)
    · obtain ⟨_, _, hkap⟩ := hv
      exact False.elim (hkap s₁ fun _ _ _ e => e)
    · obtain ⟨_, h₁, tk₁, rfl, hk₁⟩ := hp
      exact hOn.keep fun b hb o e => hk₁ b o (hHf b hb).2.2 (hHf b hb).2.1 e
    · obtain ⟨_, h₁, tk₁, rfl, hk₁⟩ := hp
      intro htk
      exact hQ _ ⟨fun b o hb e => hk b o (hk₁ b o (fun h => hb (h ▸ List.mem_cons_self ..)) (fun h => hb (List.mem_cons_of_mem _ h)) e), GenOnlyQ.of ((GenOnly.setGen s g .running).trans (GenOnly.setGen _ g .finished)) (setGen_self (gs := .running) (setGen_self hgs)) rfl, rfl, rfl, htk⟩
  self := fun _ _ _ _ st hQ => wpAny_pyIter_gen st.1.1 hQ
end
end Mine
end
section
open PySem PySem.W PyProof.Rows PySem.Calls
set_option maxRecDepth 100000
set_option maxHeartbeats 1000000
namespace Mine
/-- the values of the pairs that the items refer to -/
inductive PairVals (led : List (Addr × Obj)) : List Value → List (Value × Value) → Prop
  | nil : PairVals led [] []
  | cons {tp : Addr} {u v : Value} {its : List Value} {ps : List (Value × Value)} : (tp, tupObj [u, v]) ∈ led → PairVals led its ps → PairVals led (.ref tp :: its) ((u, v) :: ps)
theorem PairVals.len {led : List (Addr × Obj)} {its : List Value} {ps : List (Value × Value)} (h : PairVals led its ps) : its.length = ps.length := by
  induction h with
  | nil => rfl
  | cons _ _ ih => simp [ih]
theorem PairVals.get {led : List (Addr × Obj)} {its : List Value} {ps : List (Value × Value)} (h : PairVals led its ps) : ∀ {j : Nat}, j < its.length → ∃ tp u v, its[j]? = some (.ref tp) ∧ ps[j]? = some (u, v) ∧ (tp, tupObj [u, v]) ∈ led := by
  induction h with
  | nil => intro j hj; simp at hj
  | cons hm _ ih =>
    intro j hj
    cases j with
    | zero => exact ⟨_, _, _, by simp, by simp, hm⟩
    | succ j => simp at hj; obtain ⟨tp, u, v, a, b, c⟩ := ih hj; exact ⟨tp, u, v, by simpa using a, by simpa using b, c⟩
theorem pairs_vals {led : List (Addr × Obj)} {its : List Value} {ps : List (Tx × Tx)} (h : Pairs led its ps) : ∃ vs, PairVals led its vs ∧ vs.length = ps.length ∧ ∀ (j : Nat) (u v : Value), vs[j]? = some (u, v) → ∃ a b, ps[j]? = some (a, b) ∧ TxV a u ∧ TxV b v := by
  induction h with
  | nil => exact ⟨[], .nil, rfl, fun j u v e => by simp at e⟩
  | cons hm h1 h2 _ ih =>
    obtain ⟨vs, a, b, c⟩ := ih
    refine ⟨_, .cons hm a, by simp [b], fun j u v e => ?_⟩
    cases j with
    | zero => simp at e; obtain ⟨rfl, rfl⟩ := e; exact ⟨_, _, by simp, h1, h2⟩
    | succ j => simp at e; obtain ⟨a, b, x, y, z⟩ := c j u v e; exact ⟨a, b, by simpa using x, y, z⟩
/-- a code object whose table lies at P -/
abbrev CodeOf (h : Heap) (c P : Addr) : Prop := CodeHd h c P
/-- a table of code objects -/
def TabObj (o : Obj) : Prop := ∃ ps, o = tabObj ps ∧ TriplesOk ps.toList ∧ ps[2]? ≠ some .none
theorem genexprCode_tab {M : Model} {A : Around} {E : Value → Shared → Prop} {s : Shared} {env : Env} {c P : Addr} {ps : Array Value} {pos : Pos} {qualname : Str} {scope : Scope} {Q : Value → Shared → Prop} (hc : env.code = .ref c) (C : CodeHd s.heap c P) (hP : s.heap.get? P = some (tabObj ps)) (ht : TriplesOk ps.toList) (h2 : ps[2]? ≠ some .none)
    (hQ : ∀ code h' tk ps', Heap.ExtBut P s.heap h' → h'.get? P = some (tabObj ps') → TriplesOk ps'.toList → ps'[2]? ≠ some .none → Q code { s with heap := h', toks := tk }) : wpAny M A (genexprCode env pos qualname scope) Q E s := by
  cases hnf : codeAmong pos ps.toList with
  | none =>
    refine wpAny_genexprCodeX hc (C.code hP ht) (C.tab hP) hnf fun c' h' tk hx _ _ hcode _ htb _ => hQ _ h' tk _ hx htb.2 ?_ ?_
    · obtain ⟨_, _, _, _, _, _, _, _, _, op2, _, _, _, _, _, _, _, _, _, h3, _⟩ := hcode
      exact h3
    · rw [Array.getElem?_append]
      split
      · exact h2
      · rename_i hlt
        have : 2 - ps.size = 0 ∨ 2 - ps.size = 1 ∨ 2 - ps.size = 2 := by omega
        rcases this with e | e | e <;> rw [e] <;> simp [rawInt]
  | some c' => exact wpAny_genexprCode_hit hc (C.code hP ht) hnf (hQ c' s.heap s.toks ps (fun b o _ e => e) hP ht h2)
section
variable {prog : Program} {w : World} {A : Around} {E : Value → Shared → Prop} {s : Shared} {H : Hv} {h₀ : Heap} {L : Addr} {m : Str → Option Value} {news : List (Addr × Obj)} {K : Frag} {p : Program} {loose : List Str} {mean : ExcName → Option Value} {mg mb : Str → Option Value}
variable {env : Env} {scope : Scope} {cl : List (Str × Addr)} {pos : Pos} {elt iter : Expr} {xa xb : Str} {pa pb pt : Pos} {kt : Nat} {x dx P c : Addr} {its : List Value} {n : Nat} {op : Obj} {vals : List (Value × Value)} {Q : Value → Shared → Prop}
theorem gen_rest (Fv : Nat → Value → Prop) (hh : A.handled = H.val) (hOn : H.On s.heap) (hHP : P ∉ H.addrs) (F : Fr h₀ L s.heap m) (N : News h₀ L s.heap ((P, op) :: news)) (hPn : ∀ p ∈ news, p.1 ≠ P) (X : K.In h₀) (T : Top p loose mean mg mb h₀) (G : AllBare s.gens)
    (hov : listOver K 101 = true) (hf : findIn K (.ref 101) "__iter__" = some (some (.builtin "list.__iter__"))) (hx : (x, accObj dx its.toArray n) ∈ news) (hv : PairVals news its vals)
    (hcode : env.code = .ref c) (hcd : CodeOf h₀ c P) (hop : TabObj op) (hglob : env.globals = mainGlobals)
    (hxa : scope.names.lookup xa = some .local) (hxb : scope.names.lookup xb = some .local) (hab : xa ≠ xb) (hkind : scope.kind = .function) (hco : scope.isCoroutine = false) (hroom : A.depth < recursionLimit)
    (helt : ∀ (C : Addr) (code : Value) (A' : Around) (E' : Value → Shared → Prop) i u v (s₂ : Shared) m₂, A'.handled = H.val → A'.depth ≤ A.depth + 1 → A'.units ≤ A.units + 8 → vals[i]? = some (u, v) → Fr h₀ C s₂.heap m₂ → News h₀ C s₂.heap news → m₂ xa = some u → m₂ xb = some v →
      wpAny (model prog w) A' (eval elt (genEnv scope cl C code builtinsNs env)) (fun y s₃ => Fv i y ∧ Keeps s₂ s₃) E' s₂)
    (hQ : ∀ (a Kb : Addr) (op' : Obj) (s₅ : Shared), Fr h₀ L s₅.heap m → News h₀ L s₅.heap ((P, op') :: news) → TabObj op' → AllBare s₅.gens → s₅.os = s.os → s₅.drawn = s.drawn → L ≤ Kb → (∀ p ∈ (P, op') :: news, p.1 ≤ Kb) →
      Gen prog w A Kb a its.length Fv s₅ → Q (.ref a) s₅) :
    wpAny (model prog w) A (pyIter (.ref x)) (fun it s₂ => s₂.heap.NoLimit ∧
      wpAny (model prog w) A (genexprCode env pos (env.qual ++ "<genexpr>") scope) (fun code s₃ => wpAny (model prog w) A (builtinsFor env.globals env.builtins) (fun bi s₄ =>
        ∀ h', h'.Ns s₄.heap.objs.size (fun y => if y = ".0" then some it else none) → Heap.SameBut s₄.heap.objs.size (s₄.heap.push { cls := .type "frame", data := .dict #[] }) h' →
          Q (.ref h'.objs.size) { s₄ with
            gens := s₄.gens.push (.fresh (.compStart (.GeneratorExp elt [⟨.Tuple [.Name xa pa, .Name xb pb] kt pt, iter, [], 0⟩] scope pos) 0 it .none (genEnv scope cl s₄.heap.objs.size code bi env))),
            toks := s₄.toks + 1 + 1 + 1,
            heap := h'.push { cls := .type "generator", data := .fields #[.int s₄.gens.size 0, .str "<genexpr>" (s₄.toks + 1), .str (env.qual ++ "<genexpr>") (s₄.toks + 1 + 1)] } }) E s₃) E s₂) E s := by
  have hP := N _ (.head _)
  refine iter_acc (X.keeps F.keep) hov hf ((N _ (.tail _ hx)).1) ?_
  -- the heap with the iterator
  have kI : ∀ b o, s.heap.get? b = some o → (s.heap.push { cls := .type "list_iterator", data := .fields #[.ref x, .int 0 0] }).get? b = some o := fun b o e => Heap.get?_push_of_some _ e
  have hIt : (s.heap.push { cls := .type "list_iterator", data := .fields #[.ref x, .int 0 0] }).IsListIter s.heap.objs.size x 0 := ⟨_, Heap.get?_push_size _ rfl, rfl, rfl⟩
  have hxs : x < s.heap.objs.size := Heap.lt_size (N _ (.tail _ hx)).1
  generalize hh2 : s.heap.push { cls := .type "list_iterator", data := .fields #[.ref x, .int 0 0] } = h₂ at kI hIt ⊢
  have F₂ : Fr h₀ L h₂ m := F.keeps kI
  have lim : h₂.NoLimit := T.nolimit.keeps fun b o e => F₂.keep b o e
  refine ⟨lim, ?_⟩
  obtain ⟨ps, rfl, htr, htr2⟩ := hop
  have hC0 : CodeHd h₂ c P := hcd.keeps F₂.keep
  refine genexprCode_tab hcode hC0 (kI _ _ hP.1) htr htr2 fun code h₃ tk₃ ps' hx₃ hop' htr' htr2' => ?_
  have htab' : TabObj (tabObj ps') := ⟨ps', rfl, htr', htr2'⟩
  generalize tabObj ps' = op' at hop' htab'
  have n0 : ∀ b o, h₀.get? b = some o → b ≠ P := fun b o e q => by rw [q, hP.2.2] at e; cases e
  have k3 : ∀ b o, b ≠ P → s.heap.get? b = some o → h₃.get? b = some o := fun b o hb e => hx₃ b o hb (kI b o e)
  have F₃ : Fr h₀ L h₃ m := ⟨F.ns.at' fun o e => k3 _ o (fun q => hP.2.1 q.symm) e, fun b o e => k3 b o (n0 b o e) (F.keep b o e), F.above⟩
  have N₃ : News h₀ L h₃ ((P, op') :: news) := fun q hq => by
    rcases List.mem_cons.mp hq with rfl | hq
    · exact ⟨hop', hP.2⟩
    · exact ⟨k3 _ _ (hPn q hq) (N q (.tail _ hq)).1, (N q (.tail _ hq)).2⟩
  obtain ⟨bm, ob, b1, b2, b3, b4, b5, b6⟩ := T.bmain
  rw [hglob]
  refine wpAny_builtinsFor (m := mg) (T.g.keeps fun b o e => F₃.keep b o e) b1 b2 (F₃.keep _ _ b3) b4 b5 b6 ?_
  intro h' hn' hs'
  have hIP : s.heap.objs.size ≠ P := fun q => by have := Heap.lt_size hP.1; rw [← q] at this; exact Nat.lt_irrefl _ this
  have hIt₃ : h₃.IsListIter s.heap.objs.size x 0 := hIt.at fun o e => hx₃ _ o hIP e
  have hI3 : s.heap.objs.size < h₃.objs.size := by obtain ⟨o, ho, _⟩ := hIt₃; exact Heap.lt_size ho
  have hsz : h'.objs.size = h₃.objs.size + 1 := by rw [hs'.1, Heap.size_push]
  have keep' : ∀ b o, h₃.get? b = some o → h'.get? b = some o := fun b o e => hs'.extBut b o (Nat.ne_of_lt (Heap.lt_size e)) (Heap.get?_push_of_some _ e)
  have keep₅ : ∀ b o, h₃.get? b = some o → (h'.push { cls := .type "generator", data := .fields #[.int s.gens.size 0, .str "<genexpr>" (tk₃ + 1), .str (env.qual ++ "<genexpr>") (tk₃ + 1 + 1)] }).get? b = some o :=
    fun b o e => Heap.get?_push_of_some _ (keep' b o e)
  have haC : h'.objs.size ≠ h₃.objs.size := by rw [hsz]; exact Nat.succ_ne_self _
  have haf : h'.objs.size ∉ List.range h₃.objs.size := fun hm => by have := List.mem_range.mp hm; omega
  have lim₃ : h₃.NoLimit := T.nolimit.keeps fun b o e => F₃.keep b o e
  have hclt : cStatics < h₃.objs.size := let ⟨_, hn, _⟩ := lim₃; hn.lt
  have hcI : cStatics ≠ s.heap.objs.size := fun q => by
    obtain ⟨_, ⟨o, es, ep, ho, hd, _⟩, _⟩ := lim₃
    obtain ⟨o', ho', _, hd'⟩ := hIt₃
    rw [q, ho'] at ho; cases ho; rw [hd'] at hd; cases hd
  have hHs : ∀ b ∈ H.addrs, b < s.heap.objs.size := fun b hb => let ⟨_, e⟩ := hOn.lt b hb; Heap.lt_size e
  have hHf : ∀ b ∈ H.addrs, b ∈ List.range h₃.objs.size ∧ b ∉ [s.heap.objs.size] ∧ b ≠ h₃.objs.size := fun b hb =>
    ⟨List.mem_range.mpr (Nat.lt_trans (hHs b hb) hI3), fun hm => Nat.lt_irrefl _ ((List.mem_singleton.mp hm) ▸ hHs b hb), fun q => Nat.lt_irrefl _ (Nat.lt_trans (q ▸ hHs b hb) hI3)⟩
  have hOn₃ : H.On h₃ := hOn.keep fun b hb o e => k3 b o (fun q => hHP (q ▸ hb)) e
  -- the pairs
  have hget := fun j hj => hv.get (j := j) hj
  let Ts : Nat → Addr := fun j => if hj : j < its.length then (hget j hj).choose else 0
  let vs : Nat → Array Value := fun j => match vals[j]? with | some (u, v) => #[u, v] | none => #[]
  have spec : ∀ j, j < its.length → its[j]? = some (.ref (Ts j)) ∧ ∃ u v, vals[j]? = some (u, v) ∧ vs j = #[u, v] ∧ (Ts j, tupObj [u, v]) ∈ news := fun j hj => by
    have e : Ts j = (hget j hj).choose := dif_pos hj
    obtain ⟨u, v, h1, h2, h3⟩ := (hget j hj).choose_spec
    exact ⟨by rw [e]; exact h1, u, v, h2, by show (match vals[j]? with | some (u, v) => #[u, v] | none => #[]) = _; rw [h2], by rw [e]; exact h3⟩
  have szEq : its.toArray.size = its.length := by simp
  have tsl : ∀ j, j < its.toArray.size → Ts j < s.heap.objs.size := fun j hj => by
    obtain ⟨_, u, v, _, _, h3⟩ := spec j (szEq ▸ hj)
    exact Heap.lt_size (N _ (.tail _ h3)).1
  have W₀ : ∀ A' : Around, A'.handled = H.val → WalksU prog w A' s.heap.objs.size (s.heap.objs.size :: x :: (H.addrs ++ (List.range its.toArray.size).map Ts)) [s.heap.objs.size] its.toArray.size (fun j v => v = vs j) _ _ :=
    fun A' hA => walks_pairs (H := H) hA s.heap.objs.size x (Nat.ne_of_lt hxs) (fun hm => Nat.lt_irrefl _ (hHs _ hm)) its.toArray Ts vs (fun j hj => by
      have := (spec j (szEq ▸ hj)).1
      simpa using this) (fun j hj => Nat.ne_of_lt (tsl j hj))
  have W₁ : ∀ A' : Around, A'.handled = H.val → WalksU prog w A' s.heap.objs.size (List.range h₃.objs.size) [s.heap.objs.size] its.toArray.size (fun j v => j < its.toArray.size ∧ v = vs j) _ _ := fun A' hA =>
    let W := (W₀ A' hA).bound
    { sub := fun b hb => by obtain rfl := List.mem_singleton.mp hb; exact List.mem_range.mpr hI3
      frame := fun i h₁ h₂ st hk => W.frame i h₁ h₂ st fun b hb o e => hk b (List.mem_range.mpr (by
        rcases List.mem_cons.mp hb with rfl | hb
        · exact hI3
        · rcases List.mem_cons.mp hb with rfl | hb
          · exact Nat.lt_trans hxs hI3
          · rcases List.mem_append.mp hb with hb | hb
            · exact Nat.lt_trans (hHs b hb) hI3
            · obtain ⟨j, hj, rfl⟩ := List.mem_map.mp hb
              exact Nat.lt_trans (tsl j (List.mem_range.mp hj)) hI3)) o e
      item := W.item
      go := W.go
      apart := W.apart
      done := W.done
      self := W.self }
  have st₃ : h₃.IsListIter s.heap.objs.size x 0 ∧ SeqAt h₃ x its.toArray ∧ (∀ k, k < its.toArray.size → h₃.IsTuple (Ts k) (vs k)) ∧ H.On h₃ :=
    ⟨hIt₃, ⟨_, _, (N₃ _ (.tail _ hx)).1, rfl⟩, fun k hk => by
      obtain ⟨_, u, v, _, h2, h3⟩ := spec k (szEq ▸ hk)
      rw [h2]
      exact ⟨_, (N₃ _ (.tail _ h3)).1, rfl, _, rfl⟩, hOn₃⟩
  have hq : EltOk prog w H (genEnv scope cl h₃.objs.size code builtinsNs env) xa xb elt (List.range h₃.objs.size) [s.heap.objs.size] its.toArray.size (fun j v => j < its.toArray.size ∧ v = vs j) Fv
      (h'.push { cls := .type "generator", data := .fields #[.int s.gens.size 0, .str "<genexpr>" (tk₃ + 1), .str (env.qual ++ "<genexpr>") (tk₃ + 1 + 1)] }) (A.depth + 1) (A.units + 8) := by
    intro A' E' i va vb s₂ m₂ hA hd hu hi hpv hns h1 h2 hkeep
    obtain ⟨_, u, v, e1, e2, _⟩ := spec i (szEq ▸ hi)
    have e3 := hpv.2
    rw [e2] at e3
    simp only [Array.mk.injEq, List.cons.injEq, and_true] at e3
    obtain ⟨rfl, rfl⟩ := e3
    have up : ∀ b o, b < s.heap.objs.size → h₃.get? b = some o → s₂.heap.get? b = some o := fun b o hb e => hkeep b (List.mem_range.mpr (Nat.lt_trans hb hI3)) (fun hm => Nat.lt_irrefl _ ((List.mem_singleton.mp hm) ▸ hb)) o (keep₅ b o e)
    refine helt h₃.objs.size code A' E' i va vb s₂ m₂ hA hd hu e1 ⟨hns, fun b o e => up b o (Heap.lt_size (F.keep b o e)) (F₃.keep b o e), ?_⟩ (fun q hq => ⟨up _ _ (Heap.lt_size (N q (.tail _ hq)).1) (N₃ q (.tail _ hq)).1, ?_, (N q (.tail _ hq)).2.2⟩) h1 h2
    · exact Nat.le_trans F.above (Nat.le_of_lt (Nat.lt_trans F.ns.lt hI3))
    · exact Nat.ne_of_lt (Nat.lt_trans (Heap.lt_size (N q (.tail _ hq)).1) hI3)
  have hgen : (h'.push { cls := .type "generator", data := .fields #[.int s.gens.size 0, .str "<genexpr>" (tk₃ + 1), .str (env.qual ++ "<genexpr>") (tk₃ + 1 + 1)] }).IsGen h'.objs.size s.gens.size := ⟨_, _, _, Heap.get?_push_size _ rfl, rfl, rfl, rfl⟩
  have hKb : ∀ b, b < s.heap.objs.size → b ≤ s.heap.objs.size - 1 := fun b hb => Nat.le_sub_one_of_lt hb
  have hpos : 0 < s.heap.objs.size := Nat.lt_of_le_of_lt (Nat.zero_le _) hxs
  refine hQ _ (s.heap.objs.size - 1) op' _ (F₃.keeps keep₅) (fun q hq => ⟨keep₅ _ _ (N₃ q hq).1, (N₃ q hq).2⟩) htab' (G.push rfl) rfl rfl (hKb _ F.ns.lt) (fun q hq => ?_)
    ⟨_, _, s.gens.size, _, walksS_H (A := A.in4) (H := H) hh h'.objs.size s.gens.size h₃.objs.size (List.range h₃.objs.size) [s.heap.objs.size] its.length Fv haC haf (fun b hb => by obtain rfl := List.mem_singleton.mp hb; exact List.mem_range.mpr hI3) hroom (List.mem_range.mpr hclt) (Nat.ne_of_lt hclt) (fun hm => hcI (List.mem_singleton.mp hm)) hHf,
      ⟨⟨hgen, lim₃.keeps keep₅, _, Array.getElem?_push_size .., fun s'' hal => ⟨rfl, ?_⟩⟩, hOn₃.keep fun b _ o e => keep₅ b o e⟩, (fun i s' st => st.1.1.typeIs), List.mem_cons_self, ?_, ?_⟩
  · rcases List.mem_cons.mp hq with rfl | hq
    · exact hKb _ (Heap.lt_size hP.1)
    · exact hKb _ (Heap.lt_size (N q (.tail _ hq)).1)
  · have := seg_startH (A := A.in4.in1) (H := H) (iter := iter) (pa := pa) (pb := pb) (pt := pt) (kt := kt) (scope := scope) (pos := pos) (cenv := genEnv scope cl h₃.objs.size code builtinsNs env) hh W₁ (fun i h st => st.2.2.2) (fun i vals hP => by
        obtain ⟨_, u, v, _, e2, _⟩ := spec i (szEq ▸ hP.1)
        exact ⟨u, v, hP.2.trans e2⟩) hab Fv _ hxa hxb (by simp [genEnv, hkind]) hco (fun hm => Nat.lt_irrefl _ (List.mem_range.mp hm)) hq s'' s'' (fun y => if y = ".0" then some (.ref s.heap.objs.size) else none)
      ((W₁ A hh).frame _ _ _ st₃ fun b hb o e => hal b (List.mem_cons_of_mem _ hb) o (keep₅ b o e)) ((hn'.push _).at' fun o e => hal _ (List.mem_cons_self ..) o e) (GenSince.refl _ _ _) fun b hb _ o e => hal b (List.mem_cons_of_mem _ hb) o e
    rw [szEq] at this
    exact this
  · intro b hb
    show b < (h'.push _).objs.size
    rw [Heap.size_push, hsz]
    rcases List.mem_cons.mp hb with rfl | hb
    · rw [hsz]; exact Nat.lt_succ_self _
    · rcases List.mem_cons.mp hb with rfl | hb
      · exact Nat.lt_succ_of_lt (Nat.lt_succ_self _)
      · exact Nat.lt_succ_of_lt (Nat.lt_succ_of_lt (List.mem_range.mp hb))
  · intro b hb
    rcases List.mem_cons.mp hb with rfl | hb
    · exact Nat.lt_of_le_of_lt (Nat.sub_le ..) hI3
    · obtain rfl := List.mem_singleton.mp hb
      exact Nat.sub_lt hpos Nat.one_pos
end
end Mine
end
section
open PySem PySem.W PyProof.Rows PySem.Calls
set_option maxRecDepth 100000
set_option maxHeartbeats 1000000
namespace Mine
section
variable {prog : Program} {w : World} {A : Around} {E : Value → Shared → Prop} {s : Shared}
theorem call_sum2 {x : Value} {t0 : Tok} {Q : Value → Shared → Prop} (hargs : argsOk "sum" ⟨[x, .int 0 t0], []⟩)
    (h : wpAny (model prog w) A.in1 (pyIter x) (fun it s₂ => ∃ I fp wr G n P St val, it = .ref I ∧ WalksS prog w A.in1 I fp wr G n P St ∧ St 0 s₂ ∧ (∀ b ∈ fp, b < s₂.heap.objs.size) ∧
      (∀ i v, P i v → ∃ t, v = .int (val i) t) ∧
      ∀ s' t', Moved wr G s₂ s' → Q (.int (preSum val n) t') s') E s) :
    wpAny (model prog w) A (call (.builtin "sum") [x, .int 0 t0]) Q E s := by
  refine call_function_tree F.kind_sum F.plain_sum F.entry_sum hargs ?_
  unfold Builtin.«sum»
  simp only [List.length_cons, List.length_nil]
  rw [if_neg (by decide)]
  refine wpAny_bind (wpAny_of_eq (show Builtin.Builtins.bindParams "sum" ["start"] 0 ⟨[.int 0 t0], []⟩ = pure [some (.int 0 t0)] from rfl) ?_)
  refine wpAny_bind (wpAny_mono h (fun it s₂ h₂ => ?_) fun _ _ e => e)
  obtain ⟨I, fp, wr, G, n, P, St, val, rfl, W, hst, hfp, hval, hQ⟩ := h₂
  show wpAny _ _ (if _ then _ else _) _ _ _
  split
  case isFalse hne => exact absurd rfl hne
  refine wpAny_bind (wpAny_rule (wpAny_bind (wpAny_mkInt (wpAny_bind (wpAny_pure ?_)))))
  simp only [List.forIn_cons, List.forIn_nil]
  refine wpAny_bind (wpAny_bind (wpAny_bind (wpAny_isInstance (T := "int") (b := false) (typeIs_int _ _ _) PySem.sub_int_str ?_)))
  simp only [Bool.false_eq_true, if_false]
  refine wpAny_pure (wpAny_bind (wpAny_bind (wpAny_isInstance (T := "int") (b := false) (typeIs_int _ _ _) PySem.sub_int_bytes ?_)))
  simp only [Bool.false_eq_true, if_false]
  refine wpAny_pure (wpAny_bind (wpAny_bind (wpAny_isInstance (T := "int") (b := false) (typeIs_int _ _ _) PySem.sub_int_bytearray ?_)))
  simp only [Bool.false_eq_true, if_false]
  refine wpAny_pure (wpAny_pure ?_)
  refine wpAny_bind (wpAny_newObj_type ?_)
  have hSf : s₂.heap.objs.size ∉ fp := fun hm => Nat.lt_irrefl _ (hfp _ hm)
  refine wpAny_pure ⟨plainId_quiet F.plain_sum_loop _, codeAny_sum_loopAnyS W val hval s₂.heap.objs.size hSf n 0 _ s₂.toks 0 0 (.inl rfl) rfl (Nat.zero_le _)
    (W.frame 0 s₂ _ _ hst (by first | exact Nat.le_refl _ | exact Nat.le_succ _ | omega) fun b _ o e => Heap.get?_push_of_some _ e) (Heap.get?_push_size _ rfl) fun s' t' hm => ?_⟩
  exact hQ s' t' (hm.drop_new (by first | exact Nat.le_refl _ | exact Nat.le_succ _ | omega))
theorem args_sum2 (a b : Value) : argsOk "sum" ⟨[a, b], []⟩ := by unfold argsOk; kernel_rfl
variable {h₀ : Heap} {L Kb a : Addr} {m : Str → Option Value} {nw : List (Addr × Obj)} {n : Nat} {Fv : Nat → Value → Prop} {Q : Value → Shared → Prop}
theorem sum_gen {t0 : Tok} (Fh : Fr h₀ L s.heap m) (N : News h₀ L s.heap nw) (G : AllBare s.gens) (X : Gen prog w A Kb a n Fv s) (hLK : L ≤ Kb) (hK : ∀ p ∈ nw, p.1 ≤ Kb) (val : Nat → Int) (hval : ∀ j v, Fv j v → ∃ t, v = .int (val j) t)
    (hQ : ∀ h' g' d' tk' t', Fr h₀ L h' m → News h₀ L h' nw → AllBare g' → Q (.int (preSum val n) t') ⟨h', g', d', tk', s.os⟩) : wpAny (model prog w) A (call (.builtin "sum") [.ref a, .int 0 t0]) Q E s := by
  obtain ⟨fp, wr, g, St, W, hst, _, _, hfp, hwr⟩ := X
  have W := W.in4_1
  refine call_sum2 (args_sum2 _ _) (W.self 0 _ _ _ hst ⟨a, _, _, _, _, _, _, val, rfl, W, hst, hfp, hval, fun s' t' hm => ?_⟩)
  have k1 : ∀ b o, b ≤ Kb → s.heap.get? b = some o → s'.heap.get? b = some o := fun b o hb e => hm.heap b o (fun hmem => Nat.lt_irrefl _ (Nat.lt_of_lt_of_le (hwr b hmem) hb)) e
  have := hQ s'.heap s'.gens s'.drawn s'.toks t' (Fh.moved hm fun b hb => Nat.lt_of_le_of_lt hLK (hwr b hb)) (fun q hq => ⟨k1 _ _ (hK q hq) (N q hq).1, (N q hq).2⟩) (G.movedS hm)
  rw [← hm.os] at this
  exact this
theorem join_gen {sep : Str} {t : Tok} (Fh : Fr h₀ L s.heap m) (N : News h₀ L s.heap nw) (G : AllBare s.gens) (X : Gen prog w A Kb a n Fv s) (hLK : L ≤ Kb) (hK : ∀ p ∈ nw, p.1 ≤ Kb) (tx : Nat → Str) (htx : ∀ j v, Fv j v → ∃ u, v = .str (tx j) u)
    (hok : JoinOk sep ((List.range n).map tx) = true) (hsz : n ≤ sizeLine)
    (hQ : ∀ h' g' d' tk' t', Fr h₀ L h' m → News h₀ L h' nw → AllBare g' → Q (.str (Txt.join sep ((List.range n).map tx)) t') ⟨h', g', d', tk', s.os⟩) : wpAny (model prog w) A (call (.builtin "str.join") [.str sep t, .ref a]) Q E s := by
  refine join_rowsK Fh G X hLK tx htx hok (fun s' t' F' G' hos k1 => ?_) hsz
  have := hQ s'.heap s'.gens s'.drawn s'.toks t' F' (fun q hq => ⟨k1 _ _ (hK q hq) (N q hq).1, (N q hq).2⟩) G'
  rw [← hos] at this
  exact this
end
end Mine
end
section
open PySem PySem.W PyProof.Rows PySem.Calls
set_option maxRecDepth 100000
set_option maxHeartbeats 1000000
namespace Mine
abbrev ktrH (H : Hv) (dp un : Nat) (gd : Option (List Code)) (cn : Str) (cs : Scope) (L a : Addr) (ccd : Value) (cl : List (Str × Addr)) (outer : List Env) : Around := { handled := H.val, depth := dp, frames := some (envX cn cs L a ccd cl :: outer), guards := gd, units := un }
def Tx.len : Tx → Nat
  | .s x => x.length
  | .b x => x.size
def pairLen (p : Tx × Tx) : Int := (p.1.len : Int) + (p.2.len : Int)
def Short (ps : List (Tx × Tx)) : Prop := ∀ q ∈ ps, q.1.len ≤ 1000 ∧ q.2.len ≤ 1000
def lenAt (ps : List (Tx × Tx)) (j : Nat) : Int := match ps[j]? with | some p => pairLen p | none => 0
theorem lenAt_sum (ps : List (Tx × Tx)) : preSum (lenAt ps) ps.length = (ps.map pairLen).sum := by
  have e := preSum_getD (ps.map pairLen) ps.length
  rw [List.take_of_length_le (by simp)] at e
  rw [← e]
  congr 1
  funext j
  unfold lenAt
  simp [List.getD_eq_getElem?_getD]
  cases ps[j]? <;> rfl
end Mine
namespace Mine
/-- what is being handled stands in the ledger -/
def Hv.In : Hv → List (Addr × Obj) → Prop
  | .no, _ => True
  | .one u, led => ∃ o vs, (u, o) ∈ led ∧ o.data = .fields vs ∧ vs[2]? = some .none
  | .two e u, led => (∃ o vs, (e, o) ∈ led ∧ o.data = .fields vs ∧ vs[2]? = some (.ref u)) ∧ (∃ o vs, (u, o) ∈ led ∧ o.data = .fields vs ∧ vs[2]? = some .none) ∧ e ≠ u
theorem Hv.In.on {H : Hv} {led : List (Addr × Obj)} {h₀ h : Heap} {L : Addr} (x : H.In led) (N : News h₀ L h led) : H.On h := by
  cases H with
  | no => trivial
  | one u => obtain ⟨o, vs, a, b, c⟩ := x; exact ⟨o, vs, (N _ a).1, b, c⟩
  | two e u => obtain ⟨⟨o, vs, a, b, c⟩, ⟨o', vs', a', b', c'⟩, d⟩ := x; exact ⟨⟨o, vs, (N _ a).1, b, c⟩, ⟨o', vs', (N _ a').1, b', c'⟩, d⟩
theorem Hv.In.mono {H : Hv} {led led' : List (Addr × Obj)} (x : H.In led) (k : ∀ q ∈ led, q ∈ led') : H.In led' := by
  cases H with
  | no => trivial
  | one u => obtain ⟨o, vs, a, b, c⟩ := x; exact ⟨o, vs, k _ a, b, c⟩
  | two e u => obtain ⟨⟨o, vs, a, b, c⟩, ⟨o', vs', a', b', c'⟩, d⟩ := x; exact ⟨⟨o, vs, k _ a, b, c⟩, ⟨o', vs', k _ a', b', c'⟩, d⟩
theorem Hv.In.ne {H : Hv} {led : List (Addr × Obj)} {P : Addr} (x : H.In led) (k : ∀ q ∈ led, q.1 ≠ P) : P ∉ H.addrs := by
  cases H with
  | no => exact fun h => nomatch h
  | one u => obtain ⟨o, vs, a, _⟩ := x; intro h; exact k _ a (List.mem_singleton.mp h).symm
  | two e u =>
    obtain ⟨⟨o, vs, a, _⟩, ⟨o', vs', a', _⟩, _⟩ := x
    intro h
    rcases List.mem_cons.mp h with h | h
    · exact k _ a h.symm
    · exact k _ a' (List.mem_singleton.mp h).symm
abbrev codeIn (K : Frag) (c P : Addr) : Bool := codeHdIn K c P
theorem codeIn_of {K : Frag} {h : Heap} {c P : Addr} (X : K.In h) (hc : codeIn K c P = true) : CodeOf h c P := codeHd_of_K X hc
theorem hide_q {α : Type} {M : Model} {A : Around} {p : Sem α} {Q : α → Shared → Prop} {E : Value → Shared → Prop} {s : Shared} (h : ∀ Q' : α → Shared → Prop, (∀ v s', Q' v s' = Q v s') → wpAny M A p Q' E s) : wpAny M A p Q E s := h Q fun _ _ => rfl
theorem gen_toks {prog : Program} {w : World} {A : Around} {Kb a : Addr} {n : Nat} {Fv : Nat → Value → Prop} {s : Shared} {tk : Nat} (X : Gen prog w A Kb a n Fv s) (h : s.toks ≤ tk) : Gen prog w A Kb a n Fv { s with toks := tk } := by
  obtain ⟨fp, wr, g, St, W, hst, h1, h2, h3, h4⟩ := X
  exact ⟨fp, wr, g, St, W, W.frame 0 s s.heap tk hst h fun _ _ _ e => e, h1, h2, h3, h4⟩
end Mine
end
section
open PySem PySem.W PyProof.Rows PySem.Calls
set_option maxRecDepth 100000
set_option maxHeartbeats 1000000
namespace Mine
def PU (c : Value) (vs : Array Value) : Prop := c = .type UEE ∧ vs[2]? = some .none
def PV (t u : Addr) (c : Value) (vs : Array Value) : Prop := c = .type "ValueError" ∧ vs[0]? = some (.ref t) ∧ vs[2]? = some (.ref u)
theorem fits_PU : Fits PU := ⟨fun c vs x h => ⟨h.1, by rw [Array.getElem?_setIfInBounds_ne (by decide)]; exact h.2⟩⟩
theorem fits_PV {t u : Addr} : Fits (PV t u) := ⟨fun c vs x h => ⟨h.1, by rw [Array.getElem?_setIfInBounds_ne (by decide)]; exact h.2.1, by rw [Array.getElem?_setIfInBounds_ne (by decide)]; exact h.2.2⟩⟩
/-- a ValueError with the one argument msg flies; u, its context, has none -/
def RaisedX (base : Heap) (l : List Env) (e : Addr) (msg : Str) (news : List (Addr × Obj)) (h : Heap) : Prop :=
  ∃ B u t tm, base.StaysIn B ∧ (∀ q ∈ news, B.get? q.1 = some q.2 ∧ base.get? q.1 = none) ∧ OnWay (PV t u) B l e .none h ∧ base.get? e = none ∧ CtxNone B u ∧ base.get? u = none ∧
    B.get? t = some { cls := .type "tuple", data := .seq #[.str msg tm] } ∧ base.get? t = none
section
variable {prog : Program} {w : World} {A : Around} {E : Value → Shared → Prop} {s : Shared} {env : Env}
theorem raise_VE {u : Addr} {x : Expr} {pos : Pos} {Q : Flow → Shared → Prop} (hh : A.handled = some (.ref u))
    (h : wpAny (model prog w) A (eval x env) (fun v s₁ => ∃ e t, v = .ref e ∧ s₁.heap.get? e = some { cls := .type "ValueError", data := .fields #[.ref t, .none, .none, .none, .bool false, .none] } ∧ CtxNone s₁.heap u ∧ e ≠ u ∧
      ∀ h', Heap.SameBut e s₁.heap h' → h'.get? e = some { cls := .type "ValueError", data := .fields #[.ref t, .none, .ref u, .none, .bool false, .none] } → E (.ref e) { s₁ with heap := h' }) E s) :
    wpAny (model prog w) A (exec (.Raise (some x) none pos) env) Q E s := by
  show wpAny _ A (do standAt pos; raiseStmt env (some (do let v ← eval x env; standAt pos; pure v)) none) Q E s
  refine wpAny_bind (wpAny_standAt ?_)
  unfold raiseStmt
  refine wpAny_bind (wpAny_bind (wpAny_mono h (fun v s₁ h₁ => wpAny_bind (wpAny_standAt (wpAny_pure ?_))) fun _ _ x => x))
  obtain ⟨e, t, rfl, he, hc, hne, hE⟩ := h₁
  obtain ⟨hp, g, d, tk, os⟩ := s₁
  have hsub := PySem.F.excRaise_ValueError.isExc
  have hmeta := PySem.F.excRaise_ValueError.plainMeta
  have fin : wpAny (model prog w) A (raiseNew (.ref e) : Sem Flow) Q E ⟨hp, g, d, tk, os⟩ := by
    refine raise_hv (H := .one u) hh hc (by simp [Hv.addrs]; exact hne) he rfl (by simp) fun h' vs' hs hg hv => hE h' hs ?_
    rw [hg, hv]
    rfl
  repeat (first | exact fin | refine wpAny_loadPart he ?_ | wp_step)
end
end Mine
end
section
open PySem PySem.W PyProof.Rows PySem.Calls
set_option maxRecDepth 100000
set_option maxHeartbeats 1000000
namespace Mine
theorem uee_isExc : isSubtype (.type UEE) (.type "BaseException") = pure true := by rw [isSubtype_type]; kernel_rfl
theorem uee_notTuple : isSubtype (.type ((Manifest.find? UEE).elim "type" fun y => y.metatype)) (.type "tuple") = pure false := by
  first | kernel_rfl | (rw [isSubtype_type]; kernel_rfl)
theorem uee_sub : isSubtype (.type UEE) (.type UEE) = pure true := by rw [isSubtype_type]; kernel_rfl
theorem boot_uee : bootBuiltins (Str.ofString "UnicodeEncodeError") = some (.type UEE) := by first | kernel_rfl | decide +kernel
theorem boot_ve : bootBuiltins (Str.ofString "ValueError") = some (.type "ValueError") := by first | exact PyProof.Rows.Boot.«ValueError» | kernel_rfl
/-- the frames' addresses -/
abbrev fsOf (l : List Env) : List Addr := l.filterMap (·.frame)
theorem in_fs {l : List Env} : ∀ env ∈ l, ∀ a, env.frame = some a → a ∈ fsOf l := fun env he a ha => List.mem_filterMap.mpr ⟨env, he, ha⟩
theorem notin_fs {A : Around} {base g h : Heap} {outer l : List Env} {L a : Addr} {name : Str} {scope : Scope} {cd : Value} {m : Str → Option Value} {news : List (Addr × Obj)} (hl : (envOf name scope L a cd :: outer) = l) (_F : h.Ns L m) (B : Below A base outer g) (N : News g L h news) {q : Addr × Obj} (hq : q ∈ news) : q.1 ∉ fsOf l := by
  intro hm
  rw [← hl] at hm
  simp only [fsOf, List.filterMap_cons, show (envOf name scope L a cd).frame = some L from rfl] at hm
  rcases List.mem_cons.mp hm with z | hm
  · exact (N q hq).2.1 z
  · obtain ⟨o, ho, _⟩ := (B.frames.mem hm).2
    rw [(N q hq).2.2] at ho; cases ho
section
variable {prog : Program} {w : World} {A : Around} {E ek : Value → Shared → Prop} {s : Shared} {p : Program} {loose : List Str} {mean : ExcName → Option Value} {mg mb : Str → Option Value}
variable {base g h₁ : Heap} {outer : List Env} {L a u : Addr} {m : Str → Option Value} {name : Str} {scope : Scope} {cd : Value} {news : List (Addr × Obj)} {msg : Str} {p1 p2 p3 p4 p5 p6 : Pos} {kk : Nat} {Qf : Flow → Shared → Prop}
theorem bad_path (B : Below A base outer g) (F : Fr g L h₁ m) (N : News g L h₁ news) (TB : Top p loose mean mg mb base) (hN : NewU h₁ s.heap u)
    (h1 : ∀ x : Str, x = Str.ofString "UnicodeEncodeError" ∨ x = Str.ofString "ValueError" → x ∉ startupNames ∧ x ∉ loose ∧ x ∉ (recsOf p).map (·.name) ∧ x ∉ (litsOf p).map (·.1) ∧ x ∉ (clssOf p loose).map (·.name) ∧ x ≠ "__name__")
    (hk : scope.kind = .function) (hx1 : scope.names.lookup (Str.ofString "UnicodeEncodeError") = some .globalImplicit) (hx2 : scope.names.lookup (Str.ofString "ValueError") = some .globalImplicit)
    (k : ∀ e h' tk, RaisedX base outer e msg news h' → g.UpToSlots h' → E (.ref e) { s with heap := h', toks := tk }) :
    wpAny (model prog w) (A.deeper (envOf name scope L a cd)) (noteFrame (.ref u) (envOf name scope L a cd))
      (fun _ s₂ => wpAny (model prog w) (A.deeper (envOf name scope L a cd)) (setFlight (.ref u) none) (fun _ s₃ =>
        wpAny (model prog w) (A.deeper (envOf name scope L a cd)) (handleBy (.ref u) (envOf name scope L a cd) [.ExceptHandler (some (.Name (Str.ofString "UnicodeEncodeError") p1)) none [.Raise (some (.Call (.Name (Str.ofString "ValueError") p2) [.Constant (.str msg) kk p3] [] p4)) none p5] p6]) Qf
          (fun e s' => wpAny (model prog w) (A.deeper (envOf name scope L a cd)) (leaving (envOf name scope L a cd) e) (fun _ s'' => E e s'') (fun e' s'' => E e' s'') s') s₃)
          (fun e s' => wpAny (model prog w) (A.deeper (envOf name scope L a cd)) (leaving (envOf name scope L a cd) e) (fun _ s'' => E e s'') (fun e' s'' => E e' s'') s') s₂)
      (fun e s' => wpAny (model prog w) (A.deeper (envOf name scope L a cd)) (leaving (envOf name scope L a cd) e) (fun _ s'' => E e s'') (fun e' s'' => E e' s'') s') s := by
  have B' := B.push (name := name) (a := a) (cd := cd) F hk
  generalize hl : (envOf name scope L a cd :: outer) = l at B'
  have hL : (envOf name scope L a cd).frame = some L := rfl
  have nf : ∀ b o, base.get? b = some o → b ∉ fsOf l := fun b o q hm => by rw [(B'.frames.mem hm).1] at q; cases q
  -- u's first note
  have hn1 : (hideAll h₁ (fsOf l)).get? u = none := by
    cases q : (hideAll h₁ (fsOf l)).get? u with
    | none => rfl
    | some o => have := of_hideAll _ q; rw [hN.new] at this; cases this
  obtain ⟨ou, tu, mu, hu, hcu, hdu⟩ := hN.there
  have fr1 : s.heap.FunFrames (hideAll h₁ (fsOf l)) l := (funFrames_hide B'.frames in_fs).of_keeps fun b o hb _ => ⟨o, hN.keeps b o hb, rfl⟩
  refine note_firstP (P := PU) (base := hideAll h₁ (fsOf l)) fits_PU (by rw [B'.stack, ← hl]) (by rw [hl]; exact fr1) hL hu (fun b o q => hN.keeps b o (of_hideAll _ q)) hn1 hdu rfl ⟨hcu, rfl⟩ fun h₂ O₂ U₂ => ?_
  rw [hl] at O₂
  refine flightP O₂ fun h₃ O₃ U₃ => ?_
  have U13 : h₁.UpToSlots h₃ := ((Heap.UpToSlots.of_keeps hN.keeps).trans U₂).trans U₃
  -- the frame, over the base without the frames
  have up : ∀ h₄, (hideAll h₁ (fsOf l)).StaysIn h₄ → h₁.UpToSlots h₄ → Fr (hideAll g (fsOf outer)) L h₄ m := fun h₄ st U => ⟨U.ns F.ns, fun b o q => st b o (hideAll_get _ (F.keep b o (of_hideAll _ q)) fun hm => by
      rw [← hl] at hm
      simp only [fsOf, List.filterMap_cons, hL] at hm
      rcases List.mem_cons.mp hm with rfl | hm
      · have := Heap.lt_size (of_hideAll _ q); exact absurd F.above (Nat.not_le.mpr this)
      · rw [hideAll_none _ hm] at q; cases q), by rw [hideAll_size]; exact F.above⟩
  have TB' : Top p loose mean mg mb (hideAll g (fsOf outer)) := TB.keeps fun b o q => hideAll_get _ (B.stays b o q) fun hm => by rw [(B.frames.mem hm).1] at q; cases q
  obtain ⟨ob, ho3, ⟨hob, _⟩⟩ : ∃ ob, h₃.get? u = some ob ∧ (ob.cls = .type UEE ∧ True) := by
    obtain ⟨_, _, _, oe, vs, T, oT, ts, he, h0, _⟩ := O₃; exact ⟨oe, he, h0.1, trivial⟩
  obtain ⟨a1, a2, a3, a4, a5, a6⟩ := h1 _ (.inl rfl)
  refine wpAny_handleBy_builtin (X := UEE) (T := UEE) (b := true) uee_isExc uee_notTuple uee_sub (ld_builtin_at (up h₃ O₃.stays U13) TB'.g (TB'.free _ a1 a2 a3 a4 a5) TB'.b ((TB'.builtins _ a6).trans boot_uee) ⟨rfl, ⟨ob, ho3, hob⟩, ?_⟩ hk hx1 (by decide))
  refine flightP O₃ fun h₄ O₄ U₄ => ?_
  have U14 := U13.trans U₄
  have cu : CtxNone h₄ u := by
    obtain ⟨_, _, _, oe, vs, T, oT, ts, he, h0, hd, _⟩ := O₄
    exact ⟨oe, vs, he, hd, h0.2⟩
  obtain ⟨c1, c2, c3, c4, c5, c6⟩ := h1 _ (.inr rfl)
  refine wpAny_execs_cons (raise_VE (u := u) rfl ?_)
  refine wpAny_Call_ofName (ld_builtin_at (up h₄ O₄.stays U14) TB'.g (TB'.free _ c1 c2 c3 c4 c5) TB'.b ((TB'.builtins _ c6).trans boot_ve) ?_ hk hx2 (by decide))
  refine callWith_excType rfl ?_
  rw [show backTo p4 (starEach [.Constant (.str msg) kk p3] (envOf name scope L a cd)) = [(false, eval (.Constant (.str msg) kk p3) (envOf name scope L a cd))] from rfl]
  refine Calls.evalArgs_plain (Calls.spliced_cons (wpAny_Constant_str (Calls.spliced_nil ?_)))
  refine wpAny_call_exc PySem.F.excCall_ValueError fun h₅ e hm => ?_
  obtain ⟨t, he5, htn, ht5⟩ := hm.there
  have hue : e ≠ u := fun q => by obtain ⟨o, _, ho, _⟩ := cu; have := hm.new; rw [q, ho] at this; cases this
  refine ⟨e, t, rfl, he5, cu.keep fun o q => hm.keeps _ _ q, hue, fun h₆ hs₆ he₆ => ?_⟩
  have k46 : ∀ b o, h₄.get? b = some o → h₆.get? b = some o := fun b o q => hs₆.extBut b o (fun z => by have := hm.new; rw [← z, q] at this; cases this) (hm.keeps b o q)
  have ne4 : ∀ b o, h₄.get? b = some o → b ≠ e := fun b o q z => by have := hm.new; rw [← z, q] at this; cases this
  have toB : ∀ b o, h₄.get? b = some o → b ∉ fsOf l → (hideAll h₆ (e :: fsOf l)).get? b = some o := fun b o q hf => hideAll_get _ (k46 b o q) fun hm' => by
    rcases List.mem_cons.mp hm' with z | z
    · exact ne4 b o q z
    · exact hf z
  have fr6 : h₆.FunFrames (hideAll h₆ (e :: fsOf l)) l := funFrames_hide (O₄.frames.of_keeps fun b o q _ => ⟨o, k46 b o q, rfl⟩) fun env he b hb => .tail _ (in_fs env he b hb)
  show wpAny _ _ (noteFrame (.ref e) _) _ _ _
  refine note_firstP (P := PV t u) (base := hideAll h₆ (e :: fsOf l)) fits_PV (show (A.deeper (envOf name scope L a cd)).frames = some (envOf name scope L a cd :: outer) from by rw [hl]; exact B'.stack) (by rw [hl]; exact fr6) hL he₆ (fun b o q => of_hideAll _ q) (hideAll_none _ (.head _)) rfl rfl ⟨rfl, rfl, rfl⟩ fun h₇ O₇ U₇ => ?_
  refine cameBackP hL O₇ fun h₈ O₈ U₈ => ?_
  refine leave_heldP hL O₈ fun h₉ O₉ U₉ => ?_
  have sz1 : ∀ b o, h₁.get? b = some o → b ∉ fsOf l → h₄.get? b = some o := fun b o q hf => O₄.stays b o (hideAll_get _ q hf)
  have hu1 : u ∉ fsOf l := fun hm' => by obtain ⟨o, ho, _⟩ := (B'.frames.mem hm').2; rw [hN.new] at ho; cases ho
  have hbn : ∀ b, h₁.get? b = none → base.get? b = none := fun b q => fresh_of_stays (fun b o z => F.keep b o (B.stays b o z)) q
  have ht4 : t ∉ fsOf l := fun hm' => by
    obtain ⟨_, o, ho, _⟩ := O₄.frames.mem hm'
    rw [htn] at ho; cases ho
  have fresh4 : ∀ b, h₄.get? b = none → base.get? b = none := fun b q => by
    cases z : base.get? b with
    | none => rfl
    | some o => have := sz1 b o (F.keep b o (B.stays b o z)) (nf b o z); rw [q] at this; cases this
  have htB : (hideAll h₆ (e :: fsOf l)).get? t = some _ := hideAll_get _ (hs₆.extBut t _ (fun z => by
    rw [z, he5] at ht5; have := congrArg Obj.cls (Option.some.inj ht5); simp at this) ht5) fun hm' => by
    rcases List.mem_cons.mp hm' with z | z
    · rw [z, he5] at ht5; have := congrArg Obj.cls (Option.some.inj ht5); simp at this
    · exact ht4 z
  have huB : CtxNone (hideAll h₆ (e :: fsOf l)) u := by
    obtain ⟨o, vs, ho, r⟩ := cu
    exact ⟨o, vs, toB u o ho hu1, r⟩
  refine k e h₉ _ ⟨_, u, t, _, fun b o q => toB b o (sz1 b o (F.keep b o (B.stays b o q)) (nf b o q)) (nf b o q), fun q hq => ⟨toB _ _ (sz1 _ _ (N q hq).1 (notin_fs hl F.ns B N hq)) (notin_fs hl F.ns B N hq), fresh_of_stays B.stays (N q hq).2.2⟩, O₉, fresh4 e hm.new, huB, hbn u hN.new, htB, fresh4 t htn⟩ ?_
  · exact (((((Heap.UpToSlots.of_keeps F.keep).trans U14).trans (Heap.UpToSlots.of_keeps k46)).trans U₇).trans U₈).trans U₉
end
end Mine
end
section
open PySem PySem.W PyProof.Rows
set_option maxRecDepth 100000
set_option maxHeartbeats 8000000
namespace Mine
theorem two_names : ∀ x : Str, x = Str.ofString "UnicodeEncodeError" ∨ x = Str.ofString "ValueError" → x ∉ startupNames ∧ x ∉ loose0 ∧ x ∉ (recsOf p0).map (·.name) ∧ x ∉ (litsOf p0).map (·.1) ∧ x ∉ (clssOf p0 loose0).map (·.name) ∧ x ≠ "__name__" := by
  rintro x (rfl | rfl)
  · exact ⟨by decide +kernel, by decide +kernel, by decide +kernel, by decide +kernel, by decide +kernel, by decide +kernel⟩
  · exact ⟨by decide +kernel, by decide +kernel, by decide +kernel, by decide +kernel, by decide +kernel, by decide +kernel⟩
local macro_rules | `(tactic| k_mem) => `(tactic| first | assumption | exact List.mem_append.mpr (.inr (by k_mem)) | exact List.mem_append.mpr (.inl (by k_mem)))

section
theorem dec_ok : ∀ (x : Str) (t : Tok), ∀ (w : World) (mean : ExcName → Option Value) (mg mb : Str → Option Value)
   (dp un : Nat) (gd : Option (List Code)) (cn : Str) (cs : Scope) (a : Addr) (ccd : Value) (cl : List (Str × Addr)) (outer : List Env) (A₀ : Around) (base h₀ : Heap) (L : Addr) (m : Str → Option Value) (news : List (Addr × Obj)) (s : Shared)
    (Q E : Value → Shared → Prop)
   (B : Below A₀ base outer h₀) (F : Fr h₀ L s.heap m) (X : (hd.heap_39 w.params).In h₀) (N : News h₀ L s.heap news) (T : Top p0 loose0 mean mg mb h₀) (hk : cs.kind = .function) (TB : Top p0 loose0 mean mg mb base) (hd : dp + 20 < recursionLimit) (hu : un + 200 < cLine) (hz : x.length ≤ 100000)
   (hret : (∀ c ∈ x.cps, c < 128) → ∀ (t : Tok) (h' : Heap) (tk' : Nat), Fr h₀ L h' m → News h₀ L h' news → Q (.bytes (x.cps.map (·.toUInt8)) t) { s with heap := h', toks := tk' })
   (hraise : (∃ c ∈ x.cps, 128 ≤ c) → ∀ (e : Addr) (hm h' : Heap) (tk' : Nat), Fr h₀ L hm m → hm.UpToSlots h' → RaisedX base (envX cn cs L a ccd cl :: outer) e (Str.ofString "string argument should contain only ASCII characters") news h' → E (.ref e) { s with heap := h', toks := tk' }),
   wpAny (model PySem.Challenge.rw_op0008_01.row.prog w) (ktrTop dp un gd cn cs L a ccd cl outer) (call (.ref 113) [.str x t]) Q E s := by
  w_top off
  k_fill
  intro x t w mean mg mb dp un gd cn cs a ccd cl outer A₀ base h₀ L m news s Q E B F X N T hk TB hd hu hz hret hraise
  refine wpAny_call ?_
  k_dflt ((refine' code_def ?k1 ?k2 ?k3 ?k4 ?k5 ?kA ?kF ?kK ?k6 ?k7 ?k8 ?k9 ?kB ?_ ?c2 ?c3 ?c4 ?c5; (case kA => exact rfl); (case kF => exact rfl); (case kK => first | exact rfl | assumption); (case k1 => k_asm); (case k2 => k_asm); (case k3 => k_asm); (case k4 => k_asm); (case k5 => k_asm); (case k6 => k_is); (case k7 => k_is); (case k8 => ktr_room); (case k9 => first | exact BindsTo.of_eq rfl | exact binds_K (by k_in) rfl (by k_is) rfl rfl rfl); (case c5 => decide); (case kB => exact locs rfl); (case c2 => exact rfl); (case c3 => exact rfl); (case c4 => exact rfl); k_whole; intro g' L' h' FG' F' N' B' X' T'; (try dsimp only); (try k_lift B'); (try k_fold)))
  repeat' (first
    | (first
      | ((with_reducible show wpAny _ _ (noteFrame (Value.ref _) _) _ _ _); k_here; refine Stop9.mk' ?_)
      | ((with_reducible show wpAny _ _ (call (Value.builtin "str.encode") _) _ _ _); k_here; k_dflt (refine' encode_both ?hh ?hz ?h1 ?h2; (case hh => exact rfl); (case hz => assumption)); (case' h1 => intro hA9 t9 tk9); (case' h2 => intro hB9 h9 u9 tk9 hN9))
      | ((with_reducible show wpAny _ _ (getMethod (Value.str _ _) _ _) _ _ _); k_here; k_dflt (refine' gm_encode ?_); k_whole))
    | (k_unfold; (try dsimp only)) | (k_end; kc_close) | walk1 | (dsimp only; walk1) | (leave1; (try dsimp only)) | fail "no step")
  · show wpAny _ _ _ _ _ _
    k_dflt (refine' bad_path ?b ?f ?n TB ?u two_names ?hk ?x1 ?x2 ?k; (case f => k_asm); (case b => k_asm); (case n => k_asm); (case u => assumption); (case hk => exact rfl); (case x1 => exact rfl); (case x2 => exact rfl); (case k => exact fun e h' tk R U => hraise (by assumption) e _ h' tk (by assumption) U R))
  · exact hret (by assumption) _ _ _ (by k_asm) (by k_asm)
end
end Mine
end
section
open PySem PySem.W PyProof.Rows
set_option maxRecDepth 100000
set_option maxHeartbeats 8000000
namespace Mine
local macro_rules | `(tactic| k_mem) => `(tactic| assumption)

theorem make_ok : ∀ (w : World) (mean : ExcName → Option Value) (mg mb : Str → Option Value)
   (dp un : Nat) (gd : Option (List Code)) (cn : Str) (cs : Scope) (a : Addr) (ccd : Value) (cl : List (Str × Addr)) (outer : List Env) (A₀ : Around) (base h₀ : Heap) (L : Addr) (m : Str → Option Value) (news : List (Addr × Obj)) (s : Shared)
    (Q E : Value → Shared → Prop)
   (B : Below A₀ base outer h₀) (F : Fr h₀ L s.heap m) (X : (hd.heap_39 w.params).In h₀) (N : News h₀ L s.heap news) (T : Top p0 loose0 mean mg mb h₀) (hk : cs.kind = .function) (hd : dp + 20 < recursionLimit) (hu : un + 200 < cLine) 
   (hret : ∀ (x dx : Addr) (tk0 t0 : Tok) (h' : Heap) (tk' : Nat), Fr h₀ L h' m → News h₀ L h' ((x, accObj dx #[] 0) :: (dx, sizeDict w tk0 t0) :: news) → (∀ p ∈ news, p.1 < dx) → dx < x → Q (.ref x) { s with heap := h', toks := tk' }),
   wpAny (model PySem.Challenge.rw_op0008_01.row.prog w) (ktrTop dp un gd cn cs L a ccd cl outer) (call (.ref 101) []) Q E s := by
  w_top off
  k_fill
  intro w mean mg mb dp un gd cn cs a ccd cl outer A₀ base h₀ L m news s Q E B F X N T hk hd hu hret
  refine wpAny_call ?_
  k_dflt (refine' make_acc ?F ?N ?X ?hm ?hi ?hf ?_; (case F => k_asm); (case N => k_asm); (case X => k_in); (case hm => kernel_rfl); (case hi => k_is); (case hf => k_is); intro x' d' h' F' N' l1 l2; (try k_lt2 l2))
  k_dflt ((refine' ks_code_super ?k1 ?k2 ?k3 ?k4 ?k5 ?kA ?kF ?kK ?k6 ?k7 ?k8 ?k9 ?kB ?_ ?c1 ?c2 ?c3 ?c4; (case kA => exact rfl); (case kF => exact rfl); (case kK => first | exact rfl | assumption); (case k1 => k_asm); (case k2 => k_asm); (case k3 => k_asm); (case k4 => k_asm); (case k5 => k_asm); (case k6 => k_is); (case k7 => k_is); (case k8 => ktr_room); (case k9 => first | exact BindsTo.of_eq rfl | exact binds_K (by k_in) rfl (by k_is) rfl rfl rfl); (case kB => exact locs rfl); (case c1 => decide); (case c2 => exact rfl); (case c3 => exact rfl); (case c4 => exact rfl); intro g' L' h' FG' F' N' B' X' T' l1; (try k_lt l1); (try dsimp only); (try k_lift B')))
  repeat' (first
    | (first
      | ((with_reducible show wpAny _ _ (getMethod (Value.ref _) _ _) _ _ _); k_here; k_dflt (refine' getm_accF ?k1 ?k2 ?k3 ?k4 ?k5 ?k6 ?k7 ?_; (case k1 => k_asm); (case k2 => k_asm); (case k3 => k_inst); (case k4 => kernel_rfl); (case k5 => k_is); (case k6 => k_is); (case k7 => k_get); k_whole))
      | ((with_reducible show wpAny _ _ (call (Value.ref _) _) _ _ _); k_here; k_dflt (refine' popK ?k1 ?k2 ?k3 ?k4 ?k5 ?k6 ?k7 ?k8 ?k9 ?k10 ?_; (case k1 => k_asm); (case k2 => k_asm); (case k3 => k_asm); (case k4 => k_is); (case k5 => exact rfl); (case k6 => kernel_rfl); (case k7 => k_mem); (case k8 => k_upd); (case k9 => exact back_of (by omega)); (case k10 => first | assumption | (rw [sizeLine_eq]; omega)); intro h' F' N'; (try k_sweep)))
      | ((with_reducible show wpAny _ _ (call (Value.ref _) _) _ _ _); k_here; k_dflt (refine' lenK ?k2 ?k3 ?k4 ?k5 ?_; (case k2 => k_asm); (case k3 => k_mem); (case k4 => k_mem); (case k5 => first | assumption | (rw [sizeLine_eq]; omega))))
      | ((with_reducible show wpAny _ _ (getMethod (Value.ref _) _ _) _ _ _); k_here; (with_reducible show wpAny _ _ (getMethod (Value.ref _) (PySem.Str.ofString "__len__") _) _ _ _); k_dflt (refine' getm_supK bb_len (mwObj "list.__len__" _) rfl (fun _ _ _ _ _ _ _ _ _ _ e1 e2 e3 => get_len e1 e2 e3) ?k1 ?k2 ?k3 ?k4 ?k5 ?k6 ?k7 ?k8 ?k9 ?_; (case k1 => k_asm); (case k2 => k_asm); (case k3 => k_asm); (case k4 => k_mem); (case k5 => k_inst); (case k6 => k_is); (case k7 => ks_is); (case k8 => kernel_rfl); (case k9 => decide); intro q' h' F' N' l1; (try k_lt l1)))
      | ((with_reducible show wpAny _ _ (getMethod (Value.ref _) _ _) _ _ _); k_here; (with_reducible show wpAny _ _ (getMethod (Value.ref _) (PySem.Str.ofString "pop") _) _ _ _); k_dflt (refine' getm_supK bb_pop (bfmObj "list.pop" _) rfl (fun _ _ _ _ _ _ _ _ _ _ e1 e2 e3 => get_pop e1 e2 e3) ?k1 ?k2 ?k3 ?k4 ?k5 ?k6 ?k7 ?k8 ?k9 ?_; (case k1 => k_asm); (case k2 => k_asm); (case k3 => k_asm); (case k4 => k_mem); (case k5 => k_inst); (case k6 => k_is); (case k7 => ks_is); (case k8 => kernel_rfl); (case k9 => decide); intro q' h' F' N' l1; (try k_lt l1)))
      | ((with_reducible show wpAny _ _ (call (Value.builtin "list.append") _) _ _ _); k_here; (with_reducible show wpAny _ _ (call (Value.builtin _) [Value.ref _, _]) _ _ _); k_dflt (refine' appendK ?k1 ?k2 ?k3 ?k4 ?k5 ?k6 ?_; (case k1 => k_asm); (case k2 => k_asm); (case k3 => k_asm); (case k4 => kernel_rfl); (case k5 => k_upd); (case k6 => first | assumption | (rw [sizeLine_eq]; omega)); intro h' F' N'; (try k_sweep)))
      | ((with_reducible show wpAny _ _ (getMethod (Value.ref _) _ _) _ _ _); k_here; (with_reducible show wpAny _ _ (getMethod (Value.ref _) (PySem.Str.ofString "append") _) _ _ _); k_dflt (refine' getm_accB ?k1 ?k2 ?k3 ?k4 ?k5 td_append ?k7 ?_; (case k1 => k_asm); (case k2 => k_asm); (case k3 => k_inst); (case k4 => kernel_rfl); (case k5 => k_is); (case k7 => k_get); k_whole))
      | (k_here; k_dflt (first | (refine' callWith_mw0 ?N ?q ?_; (case N => k_asm); (case q => k_mem); (try dsimp only [List.append_nil])) | (refine' callWith_bfm0 ?N ?q ?_; (case N => k_asm); (case q => k_mem); (try dsimp only [List.append_nil]))))
      | ((try dsimp only); ks_step "attributeBase Call"; k_here; k_dflt (refine ks_node (by k_asm) (by k_asm) (by k_asm) (by k_asm) (by k_is) (by rfl) (by rfl) (by k_inst) (by k_is) (by rfl) (by first | rfl | decide +kernel) (by k_is) (by k_is) (by k_is) (by k_is) (by decide) (by rfl) (by rfl) (by rfl) (by rfl) (by decide +kernel) (by first | boot_by_name | rfl | kernel_rfl) ?_; intro so' h' F' N' l1; (try k_lt l1)))
      | ((try dsimp only); ks_step "eval Call"; k_dflt (refine ks_wpAt_MethodCall ?_))
      | ((try dsimp only); ks_step "exec If"; k_dflt (refine ks_wpAt_If ?_))
      | ((try dsimp only); ks_step "exec Return"; k_dflt (refine ks_wpAt_Return_some ?_))
      | ((try dsimp only); ks_step "exec Expr"; k_dflt (refine ks_wpAt_Expr_any ?_))
      | ((try dsimp only); ks_step "execs cons"; k_dflt (refine ks_wpAt_execs_cons ?_))
      | ((with_reducible show wpAny _ _ (call (Value.ref _) _) _ _ _); k_here; k_dflt (refine' initK ?k1 ?k2 ?k3 ?k4 ?_; (case k1 => k_asm); (case k2 => k_asm); (case k3 => k_mem); (case k4 => k_mem); intro h' F' N'; (try k_sweep)))
      | ((with_reducible show wpAny _ _ (getMethod (Value.ref _) _ _) _ _ _); k_here; (with_reducible show wpAny _ _ (getMethod (Value.ref _) (PySem.Str.ofString "__init__") _) _ _ _); k_dflt (refine' getm_supK bb_init (mwObj "list.__init__" _) rfl (fun _ _ _ _ _ _ _ _ _ _ e1 e2 e3 => get_init e1 e2 e3) ?k1 ?k2 ?k3 ?k4 ?k5 ?k6 ?k7 ?k8 ?k9 ?_; (case k1 => k_asm); (case k2 => k_asm); (case k3 => k_asm); (case k4 => k_mem); (case k5 => k_inst); (case k6 => k_is); (case k7 => ks_is); (case k8 => kernel_rfl); (case k9 => decide); intro q' h' F' N' l1; (try k_lt l1)))
      | ((with_reducible show wpAny _ _ (setAttr (Value.ref _) _ _) _ _ _); k_here; k_dflt (refine' set_accL ?k1 ?k2 ?k3 ?k4 ?k5 ?k6 ?k7 ?k8 ?k9 ?k10 ?k11 ?k12 ?k13 ?_; (case k1 => k_asm); (case k2 => k_asm); (case k3 => k_asm); (case k4 => k_inst); (case k5 => exact rfl); (case k6 => k_is); (case k7 => kernel_rfl); (case k8 => k_is); (case k9 => k_is); (case k10 => k_get); (case k11 => k_put); (case k12 => k_upd); (case k13 => exact Nat.le_of_ble_eq_true rfl); k_whole; intro h' F' N'; (try k_sweep))))
    | (k_unfold; (try dsimp only)) | (k_end; kc_close) | walk1 | (dsimp only; walk1) | (leave1; (try dsimp only)) | fail "no step")
  exact hret _ _ _ _ _ _ (by k_asm) (cb_drop (by k_asm) (fun p hp => List.mem_cons_of_mem _ (List.mem_cons_of_mem _ hp))) (by assumption) (by assumption)
theorem push_ok : ∀ (x dx : Addr) (its : Array Value) (n : Nat) (tk0 t0 : Tok) (fws string : Value), ∀ (w : World) (mean : ExcName → Option Value) (mg mb : Str → Option Value)
   (dp un : Nat) (gd : Option (List Code)) (cn : Str) (cs : Scope) (a : Addr) (ccd : Value) (cl : List (Str × Addr)) (outer : List Env) (A₀ : Around) (base h₀ : Heap) (L : Addr) (m : Str → Option Value) (news : List (Addr × Obj)) (s : Shared)
    (Q E : Value → Shared → Prop)
   (B : Below A₀ base outer h₀) (F : Fr h₀ L s.heap m) (X : (hd.heap_39 w.params).In h₀) (N : News h₀ L s.heap news) (T : Top p0 loose0 mean mg mb h₀) (hk : cs.kind = .function) (hd : dp + 20 < recursionLimit) (hu : un + 200 < cLine) (hx : News h₀ L s.heap ((x, accObj dx its n) :: news)) (hdx : (dx, sizeDict w tk0 t0) ∈ news) (hne : ∀ p ∈ news, p.1 ≠ x) (hz : its.size ≤ sizeLine)
   (hret : ∀ (tp : Addr) (h' : Heap) (tk' : Nat), Fr h₀ L h' m → News h₀ L h' ((x, accObj dx (its.push (.ref tp)) (n + 1)) :: (tp, tupObj [fws, string]) :: news) → (∀ p ∈ news, p.1 < tp) → x < tp → Q .none { s with heap := h', toks := tk' }),
   wpAny (model PySem.Challenge.rw_op0008_01.row.prog w) (ktrTop dp un gd cn cs L a ccd cl outer) (call (.ref 45) [.ref x, fws, string]) Q E s := by
  w_top off
  k_fill
  intro x dx its n tk0 t0 fws string w mean mg mb dp un gd cn cs a ccd cl outer A₀ base h₀ L m news s Q E B F X N T hk hd hu hx hdx hne hz hret
  clear N
  refine wpAny_call ?_
  k_dflt cell_enter
  repeat' (first
    | (first
      | ((with_reducible show wpAny _ _ (getMethod (Value.ref _) _ _) _ _ _); k_here; k_dflt (refine' getm_accF ?k1 ?k2 ?k3 ?k4 ?k5 ?k6 ?k7 ?_; (case k1 => k_asm); (case k2 => k_asm); (case k3 => k_inst); (case k4 => kernel_rfl); (case k5 => k_is); (case k6 => k_is); (case k7 => k_get); k_whole))
      | ((with_reducible show wpAny _ _ (call (Value.ref _) _) _ _ _); k_here; k_dflt (refine' popK ?k1 ?k2 ?k3 ?k4 ?k5 ?k6 ?k7 ?k8 ?k9 ?k10 ?_; (case k1 => k_asm); (case k2 => k_asm); (case k3 => k_asm); (case k4 => k_is); (case k5 => exact rfl); (case k6 => kernel_rfl); (case k7 => k_mem); (case k8 => k_upd); (case k9 => exact back_of (by omega)); (case k10 => first | assumption | (rw [sizeLine_eq]; omega)); intro h' F' N'; (try k_sweep)))
      | ((with_reducible show wpAny _ _ (call (Value.ref _) _) _ _ _); k_here; k_dflt (refine' lenK ?k2 ?k3 ?k4 ?k5 ?_; (case k2 => k_asm); (case k3 => k_mem); (case k4 => k_mem); (case k5 => first | assumption | (rw [sizeLine_eq]; omega))))
      | ((with_reducible show wpAny _ _ (getMethod (Value.ref _) _ _) _ _ _); k_here; (with_reducible show wpAny _ _ (getMethod (Value.ref _) (PySem.Str.ofString "__len__") _) _ _ _); k_dflt (refine' getm_supK bb_len (mwObj "list.__len__" _) rfl (fun _ _ _ _ _ _ _ _ _ _ e1 e2 e3 => get_len e1 e2 e3) ?k1 ?k2 ?k3 ?k4 ?k5 ?k6 ?k7 ?k8 ?k9 ?_; (case k1 => k_asm); (case k2 => k_asm); (case k3 => k_asm); (case k4 => k_mem); (case k5 => k_inst); (case k6 => k_is); (case k7 => ks_is); (case k8 => kernel_rfl); (case k9 => decide); intro q' h' F' N' l1; (try k_lt l1)))
      | ((with_reducible show wpAny _ _ (getMethod (Value.ref _) _ _) _ _ _); k_here; (with_reducible show wpAny _ _ (getMethod (Value.ref _) (PySem.Str.ofString "pop") _) _ _ _); k_dflt (refine' getm_supK bb_pop (bfmObj "list.pop" _) rfl (fun _ _ _ _ _ _ _ _ _ _ e1 e2 e3 => get_pop e1 e2 e3) ?k1 ?k2 ?k3 ?k4 ?k5 ?k6 ?k7 ?k8 ?k9 ?_; (case k1 => k_asm); (case k2 => k_asm); (case k3 => k_asm); (case k4 => k_mem); (case k5 => k_inst); (case k6 => k_is); (case k7 => ks_is); (case k8 => kernel_rfl); (case k9 => decide); intro q' h' F' N' l1; (try k_lt l1)))
      | ((with_reducible show wpAny _ _ (call (Value.builtin "list.append") _) _ _ _); k_here; (with_reducible show wpAny _ _ (call (Value.builtin _) [Value.ref _, _]) _ _ _); k_dflt (refine' appendK ?k1 ?k2 ?k3 ?k4 ?k5 ?k6 ?_; (case k1 => k_asm); (case k2 => k_asm); (case k3 => k_asm); (case k4 => kernel_rfl); (case k5 => k_upd); (case k6 => first | assumption | (rw [sizeLine_eq]; omega)); intro h' F' N'; (try k_sweep)))
      | ((with_reducible show wpAny _ _ (getMethod (Value.ref _) _ _) _ _ _); k_here; (with_reducible show wpAny _ _ (getMethod (Value.ref _) (PySem.Str.ofString "append") _) _ _ _); k_dflt (refine' getm_accB ?k1 ?k2 ?k3 ?k4 ?k5 td_append ?k7 ?_; (case k1 => k_asm); (case k2 => k_asm); (case k3 => k_inst); (case k4 => kernel_rfl); (case k5 => k_is); (case k7 => k_get); k_whole))
      | (k_here; k_dflt (first | (refine' callWith_mw0 ?N ?q ?_; (case N => k_asm); (case q => k_mem); (try dsimp only [List.append_nil])) | (refine' callWith_bfm0 ?N ?q ?_; (case N => k_asm); (case q => k_mem); (try dsimp only [List.append_nil]))))
      | ((try dsimp only); ks_step "attributeBase Call"; k_here; k_dflt (refine ks_node (by k_asm) (by k_asm) (by k_asm) (by k_asm) (by k_is) (by rfl) (by rfl) (by k_inst) (by k_is) (by rfl) (by first | rfl | decide +kernel) (by k_is) (by k_is) (by k_is) (by k_is) (by decide) (by rfl) (by rfl) (by rfl) (by rfl) (by decide +kernel) (by first | boot_by_name | rfl | kernel_rfl) ?_; intro so' h' F' N' l1; (try k_lt l1)))
      | ((try dsimp only); ks_step "eval Call"; k_dflt (refine ks_wpAt_MethodCall ?_))
      | ((try dsimp only); ks_step "exec If"; k_dflt (refine ks_wpAt_If ?_))
      | ((try dsimp only); ks_step "exec Return"; k_dflt (refine ks_wpAt_Return_some ?_))
      | ((try dsimp only); ks_step "exec Expr"; k_dflt (refine ks_wpAt_Expr_any ?_))
      | ((try dsimp only); ks_step "execs cons"; k_dflt (refine ks_wpAt_execs_cons ?_))
      | ((with_reducible show wpAny _ _ (call (Value.ref _) _) _ _ _); k_here; k_dflt (refine' initK ?k1 ?k2 ?k3 ?k4 ?_; (case k1 => k_asm); (case k2 => k_asm); (case k3 => k_mem); (case k4 => k_mem); intro h' F' N'; (try k_sweep)))
      | ((with_reducible show wpAny _ _ (getMethod (Value.ref _) _ _) _ _ _); k_here; (with_reducible show wpAny _ _ (getMethod (Value.ref _) (PySem.Str.ofString "__init__") _) _ _ _); k_dflt (refine' getm_supK bb_init (mwObj "list.__init__" _) rfl (fun _ _ _ _ _ _ _ _ _ _ e1 e2 e3 => get_init e1 e2 e3) ?k1 ?k2 ?k3 ?k4 ?k5 ?k6 ?k7 ?k8 ?k9 ?_; (case k1 => k_asm); (case k2 => k_asm); (case k3 => k_asm); (case k4 => k_mem); (case k5 => k_inst); (case k6 => k_is); (case k7 => ks_is); (case k8 => kernel_rfl); (case k9 => decide); intro q' h' F' N' l1; (try k_lt l1)))
      | ((with_reducible show wpAny _ _ (setAttr (Value.ref _) _ _) _ _ _); k_here; k_dflt (refine' set_accL ?k1 ?k2 ?k3 ?k4 ?k5 ?k6 ?k7 ?k8 ?k9 ?k10 ?k11 ?k12 ?k13 ?_; (case k1 => k_asm); (case k2 => k_asm); (case k3 => k_asm); (case k4 => k_inst); (case k5 => exact rfl); (case k6 => k_is); (case k7 => kernel_rfl); (case k8 => k_is); (case k9 => k_is); (case k10 => k_get); (case k11 => k_put); (case k12 => k_upd); (case k13 => exact Nat.le_of_ble_eq_true rfl); k_whole; intro h' F' N'; (try k_sweep))))
    | (k_unfold; (try dsimp only)) | (k_end; kc_close) | walk1 | (dsimp only; walk1) | (leave1; (try dsimp only)) | fail "no step")
  refine' hret _ _ _ ?F ?N ?l ?x
  (case F => k_asm)
  (case l => exact all_lt (And.right (by assumption)))
  (case x => exact And.left (by assumption))
  (case N => exact led_swap (by k_asm))
theorem part_count_ok : ∀ (x dx : Addr) (its : Array Value) (n : Nat) (tk0 t0 : Tok), ∀ (w : World) (mean : ExcName → Option Value) (mg mb : Str → Option Value)
   (dp un : Nat) (gd : Option (List Code)) (cn : Str) (cs : Scope) (a : Addr) (ccd : Value) (cl : List (Str × Addr)) (outer : List Env) (A₀ : Around) (base h₀ : Heap) (L : Addr) (m : Str → Option Value) (news : List (Addr × Obj)) (s : Shared)
    (Q E : Value → Shared → Prop)
   (B : Below A₀ base outer h₀) (F : Fr h₀ L s.heap m) (X : (hd.heap_39 w.params).In h₀) (N : News h₀ L s.heap news) (T : Top p0 loose0 mean mg mb h₀) (hk : cs.kind = .function) (hd : dp + 20 < recursionLimit) (hu : un + 200 < cLine) (hx : (x, accObj dx its n) ∈ news) (hdx : (dx, sizeDict w tk0 t0) ∈ news) (hz : its.size ≤ sizeLine)
   (hret : ∀ (t : Tok) (h' : Heap) (tk' : Nat), Fr h₀ L h' m → News h₀ L h' news → Q (.int its.size t) { s with heap := h', toks := tk' }),
   wpAny (model PySem.Challenge.rw_op0008_01.row.prog w) (ktrTop dp un gd cn cs L a ccd cl outer) (call (.ref 98) [.ref x]) Q E s := by
  w_top off
  k_fill
  intro x dx its n tk0 t0 w mean mg mb dp un gd cn cs a ccd cl outer A₀ base h₀ L m news s Q E B F X N T hk hd hu hx hdx hz hret
  refine wpAny_call ?_
  k_dflt ((refine' ks_code_super ?k1 ?k2 ?k3 ?k4 ?k5 ?kA ?kF ?kK ?k6 ?k7 ?k8 ?k9 ?kB ?_ ?c1 ?c2 ?c3 ?c4; (case kA => exact rfl); (case kF => exact rfl); (case kK => first | exact rfl | assumption); (case k1 => k_asm); (case k2 => k_asm); (case k3 => k_asm); (case k4 => k_asm); (case k5 => k_asm); (case k6 => k_is); (case k7 => k_is); (case k8 => ktr_room); (case k9 => first | exact BindsTo.of_eq rfl | exact binds_K (by k_in) rfl (by k_is) rfl rfl rfl); (case kB => exact locs rfl); (case c1 => decide); (case c2 => exact rfl); (case c3 => exact rfl); (case c4 => exact rfl); intro g' L' h' FG' F' N' B' X' T' l1; (try k_lt l1); (try dsimp only); (try k_lift B')))
  repeat' (first
    | (first
      | ((with_reducible show wpAny _ _ (getMethod (Value.ref _) _ _) _ _ _); k_here; k_dflt (refine' getm_accF ?k1 ?k2 ?k3 ?k4 ?k5 ?k6 ?k7 ?_; (case k1 => k_asm); (case k2 => k_asm); (case k3 => k_inst); (case k4 => kernel_rfl); (case k5 => k_is); (case k6 => k_is); (case k7 => k_get); k_whole))
      | ((with_reducible show wpAny _ _ (call (Value.ref _) _) _ _ _); k_here; k_dflt (refine' popK ?k1 ?k2 ?k3 ?k4 ?k5 ?k6 ?k7 ?k8 ?k9 ?k10 ?_; (case k1 => k_asm); (case k2 => k_asm); (case k3 => k_asm); (case k4 => k_is); (case k5 => exact rfl); (case k6 => kernel_rfl); (case k7 => k_mem); (case k8 => k_upd); (case k9 => exact back_of (by omega)); (case k10 => first | assumption | (rw [sizeLine_eq]; omega)); intro h' F' N'; (try k_sweep)))
      | ((with_reducible show wpAny _ _ (call (Value.ref _) _) _ _ _); k_here; k_dflt (refine' lenK ?k2 ?k3 ?k4 ?k5 ?_; (case k2 => k_asm); (case k3 => k_mem); (case k4 => k_mem); (case k5 => first | assumption | (rw [sizeLine_eq]; omega))))
      | ((with_reducible show wpAny _ _ (getMethod (Value.ref _) _ _) _ _ _); k_here; (with_reducible show wpAny _ _ (getMethod (Value.ref _) (PySem.Str.ofString "__len__") _) _ _ _); k_dflt (refine' getm_supK bb_len (mwObj "list.__len__" _) rfl (fun _ _ _ _ _ _ _ _ _ _ e1 e2 e3 => get_len e1 e2 e3) ?k1 ?k2 ?k3 ?k4 ?k5 ?k6 ?k7 ?k8 ?k9 ?_; (case k1 => k_asm); (case k2 => k_asm); (case k3 => k_asm); (case k4 => k_mem); (case k5 => k_inst); (case k6 => k_is); (case k7 => ks_is); (case k8 => kernel_rfl); (case k9 => decide); intro q' h' F' N' l1; (try k_lt l1)))
      | ((with_reducible show wpAny _ _ (getMethod (Value.ref _) _ _) _ _ _); k_here; (with_reducible show wpAny _ _ (getMethod (Value.ref _) (PySem.Str.ofString "pop") _) _ _ _); k_dflt (refine' getm_supK bb_pop (bfmObj "list.pop" _) rfl (fun _ _ _ _ _ _ _ _ _ _ e1 e2 e3 => get_pop e1 e2 e3) ?k1 ?k2 ?k3 ?k4 ?k5 ?k6 ?k7 ?k8 ?k9 ?_; (case k1 => k_asm); (case k2 => k_asm); (case k3 => k_asm); (case k4 => k_mem); (case k5 => k_inst); (case k6 => k_is); (case k7 => ks_is); (case k8 => kernel_rfl); (case k9 => decide); intro q' h' F' N' l1; (try k_lt l1)))
      | ((with_reducible show wpAny _ _ (call (Value.builtin "list.append") _) _ _ _); k_here; (with_reducible show wpAny _ _ (call (Value.builtin _) [Value.ref _, _]) _ _ _); k_dflt (refine' appendK ?k1 ?k2 ?k3 ?k4 ?k5 ?k6 ?_; (case k1 => k_asm); (case k2 => k_asm); (case k3 => k_asm); (case k4 => kernel_rfl); (case k5 => k_upd); (case k6 => first | assumption | (rw [sizeLine_eq]; omega)); intro h' F' N'; (try k_sweep)))
      | ((with_reducible show wpAny _ _ (getMethod (Value.ref _) _ _) _ _ _); k_here; (with_reducible show wpAny _ _ (getMethod (Value.ref _) (PySem.Str.ofString "append") _) _ _ _); k_dflt (refine' getm_accB ?k1 ?k2 ?k3 ?k4 ?k5 td_append ?k7 ?_; (case k1 => k_asm); (case k2 => k_asm); (case k3 => k_inst); (case k4 => kernel_rfl); (case k5 => k_is); (case k7 => k_get); k_whole))
      | (k_here; k_dflt (first | (refine' callWith_mw0 ?N ?q ?_; (case N => k_asm); (case q => k_mem); (try dsimp only [List.append_nil])) | (refine' callWith_bfm0 ?N ?q ?_; (case N => k_asm); (case q => k_mem); (try dsimp only [List.append_nil]))))
      | ((try dsimp only); ks_step "attributeBase Call"; k_here; k_dflt (refine ks_node (by k_asm) (by k_asm) (by k_asm) (by k_asm) (by k_is) (by rfl) (by rfl) (by k_inst) (by k_is) (by rfl) (by first | rfl | decide +kernel) (by k_is) (by k_is) (by k_is) (by k_is) (by decide) (by rfl) (by rfl) (by rfl) (by rfl) (by decide +kernel) (by first | boot_by_name | rfl | kernel_rfl) ?_; intro so' h' F' N' l1; (try k_lt l1)))
      | ((try dsimp only); ks_step "eval Call"; k_dflt (refine ks_wpAt_MethodCall ?_))
      | ((try dsimp only); ks_step "exec If"; k_dflt (refine ks_wpAt_If ?_))
      | ((try dsimp only); ks_step "exec Return"; k_dflt (refine ks_wpAt_Return_some ?_))
      | ((try dsimp only); ks_step "exec Expr"; k_dflt (refine ks_wpAt_Expr_any ?_))
      | ((try dsimp only); ks_step "execs cons"; k_dflt (refine ks_wpAt_execs_cons ?_))
      | ((with_reducible show wpAny _ _ (call (Value.ref _) _) _ _ _); k_here; k_dflt (refine' initK ?k1 ?k2 ?k3 ?k4 ?_; (case k1 => k_asm); (case k2 => k_asm); (case k3 => k_mem); (case k4 => k_mem); intro h' F' N'; (try k_sweep)))
      | ((with_reducible show wpAny _ _ (getMethod (Value.ref _) _ _) _ _ _); k_here; (with_reducible show wpAny _ _ (getMethod (Value.ref _) (PySem.Str.ofString "__init__") _) _ _ _); k_dflt (refine' getm_supK bb_init (mwObj "list.__init__" _) rfl (fun _ _ _ _ _ _ _ _ _ _ e1 e2 e3 => get_init e1 e2 e3) ?k1 ?k2 ?k3 ?k4 ?k5 ?k6 ?k7 ?k8 ?k9 ?_; (case k1 => k_asm); (case k2 => k_asm); (case k3 => k_asm); (case k4 => k_mem); (case k5 => k_inst); (case k6 => k_is); (case k7 => ks_is); (case k8 => kernel_rfl); (case k9 => decide); intro q' h' F' N' l1; (try k_lt l1)))
      | ((with_reducible show wpAny _ _ (setAttr (Value.ref _) _ _) _ _ _); k_here; k_dflt (refine' set_accL ?k1 ?k2 ?k3 ?k4 ?k5 ?k6 ?k7 ?k8 ?k9 ?k10 ?k11 ?k12 ?k13 ?_; (case k1 => k_asm); (case k2 => k_asm); (case k3 => k_asm); (case k4 => k_inst); (case k5 => exact rfl); (case k6 => k_is); (case k7 => kernel_rfl); (case k8 => k_is); (case k9 => k_is); (case k10 => k_get); (case k11 => k_put); (case k12 => k_upd); (case k13 => exact Nat.le_of_ble_eq_true rfl); k_whole; intro h' F' N'; (try k_sweep))))
    | (k_unfold; (try dsimp only)) | (k_end; kc_close) | walk1 | (dsimp only; walk1) | (leave1; (try dsimp only)) | fail "no step")
  exact hret _ _ _ (by k_asm) (led_tail (led_tail (by k_asm)))
theorem pop_ok : ∀ (x dx : Addr) (its : Array Value) (n : Nat) (tk0 t0 : Tok), ∀ (w : World) (mean : ExcName → Option Value) (mg mb : Str → Option Value)
   (dp un : Nat) (gd : Option (List Code)) (cn : Str) (cs : Scope) (a : Addr) (ccd : Value) (cl : List (Str × Addr)) (outer : List Env) (A₀ : Around) (base h₀ : Heap) (L : Addr) (m : Str → Option Value) (news : List (Addr × Obj)) (s : Shared)
    (Q E : Value → Shared → Prop)
   (B : Below A₀ base outer h₀) (F : Fr h₀ L s.heap m) (X : (hd.heap_39 w.params).In h₀) (N : News h₀ L s.heap news) (T : Top p0 loose0 mean mg mb h₀) (hk : cs.kind = .function) (hd : dp + 40 < recursionLimit) (hu : un + 400 < cLine) (hx : News h₀ L s.heap ((x, accObj dx its n) :: news)) (hdx : (dx, sizeDict w tk0 t0) ∈ news) (hne : ∀ p ∈ news, p.1 ≠ x) (hz : its.size ≤ sizeLine)
   (hret : ∀ (v : Value) (n' : Nat) (h' : Heap) (tk' : Nat), Fr h₀ L h' m → News h₀ L h' ((x, accObj dx its.pop n') :: news) → Q v { s with heap := h', toks := tk' }),
   wpAny (model PySem.Challenge.rw_op0008_01.row.prog w) (ktrTop dp un gd cn cs L a ccd cl outer) (call (.ref 61) [.ref x]) Q E s := by
  w_top off
  k_fill
  intro x dx its n tk0 t0 w mean mg mb dp un gd cn cs a ccd cl outer A₀ base h₀ L m news s Q E B F X N T hk hd hu hx hdx hne hz hret
  clear N
  refine wpAny_call ?_
  k_dflt ((refine' ks_code_super ?k1 ?k2 ?k3 ?k4 ?k5 ?kA ?kF ?kK ?k6 ?k7 ?k8 ?k9 ?kB ?_ ?c1 ?c2 ?c3 ?c4; (case kA => exact rfl); (case kF => exact rfl); (case kK => first | exact rfl | assumption); (case k1 => k_asm); (case k2 => k_asm); (case k3 => k_asm); (case k4 => k_asm); (case k5 => k_asm); (case k6 => k_is); (case k7 => k_is); (case k8 => ktr_room); (case k9 => first | exact BindsTo.of_eq rfl | exact binds_K (by k_in) rfl (by k_is) rfl rfl rfl); (case kB => exact locs rfl); (case c1 => decide); (case c2 => exact rfl); (case c3 => exact rfl); (case c4 => exact rfl); intro g' L' h' FG' F' N' B' X' T' l1; (try k_lt l1); (try dsimp only); (try k_lift B')))
  repeat' (first
    | (first
      | ((with_reducible show wpAny _ _ (call (Value.ref _) _) _ _ _); k_here; k_dflt (show wpAny _ _ (call (Value.ref 98) [Value.ref _]) _ _ _); k_dflt (refine' part_count_ok _ _ _ _ _ _ _ _ _ _ _ _ _ _ _ _ _ _ _ _ _ _ _ _ _ _ _ _ ?k1 ?k2 ?k3 ?k4 ?k5 ?kK ?kd ?ku ?hx ?hdx ?hz ?_; (case k1 => k_asm); (case k2 => k_asm); (case k3 => k_asm); (case k4 => k_asm); (case k5 => k_asm); (case kK => first | exact rfl | assumption); (case hx => k_mem); (case hdx => k_mem); (case hz => assumption); (case kd => ktr_room); (case ku => ktr_units); intro t9 h9 tk9 F9 N9; (try dsimp only); (try k_fold)))
      | ((with_reducible show wpAny _ _ (getMethod (Value.ref _) _ _) _ _ _); k_here; k_dflt (refine' getm_accF ?k1 ?k2 ?k3 ?k4 ?k5 ?k6 ?k7 ?_; (case k1 => k_asm); (case k2 => k_asm); (case k3 => k_inst); (case k4 => kernel_rfl); (case k5 => k_is); (case k6 => k_is); (case k7 => k_get); k_whole))
      | ((with_reducible show wpAny _ _ (call (Value.ref _) _) _ _ _); k_here; k_dflt (refine' popK ?k1 ?k2 ?k3 ?k4 ?k5 ?k6 ?k7 ?k8 ?k9 ?k10 ?_; (case k1 => k_asm); (case k2 => k_asm); (case k3 => k_asm); (case k4 => k_is); (case k5 => exact rfl); (case k6 => kernel_rfl); (case k7 => k_mem); (case k8 => k_upd); (case k9 => exact back_of (by omega)); (case k10 => first | assumption | (rw [sizeLine_eq]; omega)); intro h' F' N'; (try k_sweep)))
      | ((with_reducible show wpAny _ _ (call (Value.ref _) _) _ _ _); k_here; k_dflt (refine' lenK ?k2 ?k3 ?k4 ?k5 ?_; (case k2 => k_asm); (case k3 => k_mem); (case k4 => k_mem); (case k5 => first | assumption | (rw [sizeLine_eq]; omega))))
      | ((with_reducible show wpAny _ _ (getMethod (Value.ref _) _ _) _ _ _); k_here; (with_reducible show wpAny _ _ (getMethod (Value.ref _) (PySem.Str.ofString "__len__") _) _ _ _); k_dflt (refine' getm_supK bb_len (mwObj "list.__len__" _) rfl (fun _ _ _ _ _ _ _ _ _ _ e1 e2 e3 => get_len e1 e2 e3) ?k1 ?k2 ?k3 ?k4 ?k5 ?k6 ?k7 ?k8 ?k9 ?_; (case k1 => k_asm); (case k2 => k_asm); (case k3 => k_asm); (case k4 => k_mem); (case k5 => k_inst); (case k6 => k_is); (case k7 => ks_is); (case k8 => kernel_rfl); (case k9 => decide); intro q' h' F' N' l1; (try k_lt l1)))
      | ((with_reducible show wpAny _ _ (getMethod (Value.ref _) _ _) _ _ _); k_here; (with_reducible show wpAny _ _ (getMethod (Value.ref _) (PySem.Str.ofString "pop") _) _ _ _); k_dflt (refine' getm_supK bb_pop (bfmObj "list.pop" _) rfl (fun _ _ _ _ _ _ _ _ _ _ e1 e2 e3 => get_pop e1 e2 e3) ?k1 ?k2 ?k3 ?k4 ?k5 ?k6 ?k7 ?k8 ?k9 ?_; (case k1 => k_asm); (case k2 => k_asm); (case k3 => k_asm); (case k4 => k_mem); (case k5 => k_inst); (case k6 => k_is); (case k7 => ks_is); (case k8 => kernel_rfl); (case k9 => decide); intro q' h' F' N' l1; (try k_lt l1)))
      | ((with_reducible show wpAny _ _ (call (Value.builtin "list.append") _) _ _ _); k_here; (with_reducible show wpAny _ _ (call (Value.builtin _) [Value.ref _, _]) _ _ _); k_dflt (refine' appendK ?k1 ?k2 ?k3 ?k4 ?k5 ?k6 ?_; (case k1 => k_asm); (case k2 => k_asm); (case k3 => k_asm); (case k4 => kernel_rfl); (case k5 => k_upd); (case k6 => first | assumption | (rw [sizeLine_eq]; omega)); intro h' F' N'; (try k_sweep)))
      | ((with_reducible show wpAny _ _ (getMethod (Value.ref _) _ _) _ _ _); k_here; (with_reducible show wpAny _ _ (getMethod (Value.ref _) (PySem.Str.ofString "append") _) _ _ _); k_dflt (refine' getm_accB ?k1 ?k2 ?k3 ?k4 ?k5 td_append ?k7 ?_; (case k1 => k_asm); (case k2 => k_asm); (case k3 => k_inst); (case k4 => kernel_rfl); (case k5 => k_is); (case k7 => k_get); k_whole))
      | (k_here; k_dflt (first | (refine' callWith_mw0 ?N ?q ?_; (case N => k_asm); (case q => k_mem); (try dsimp only [List.append_nil])) | (refine' callWith_bfm0 ?N ?q ?_; (case N => k_asm); (case q => k_mem); (try dsimp only [List.append_nil]))))
      | ((try dsimp only); ks_step "attributeBase Call"; k_here; k_dflt (refine ks_node (by k_asm) (by k_asm) (by k_asm) (by k_asm) (by k_is) (by rfl) (by rfl) (by k_inst) (by k_is) (by rfl) (by first | rfl | decide +kernel) (by k_is) (by k_is) (by k_is) (by k_is) (by decide) (by rfl) (by rfl) (by rfl) (by rfl) (by decide +kernel) (by first | boot_by_name | rfl | kernel_rfl) ?_; intro so' h' F' N' l1; (try k_lt l1)))
      | ((try dsimp only); ks_step "eval Call"; k_dflt (refine ks_wpAt_MethodCall ?_))
      | ((try dsimp only); ks_step "exec If"; k_dflt (refine ks_wpAt_If ?_))
      | ((try dsimp only); ks_step "exec Return"; k_dflt (refine ks_wpAt_Return_some ?_))
      | ((try dsimp only); ks_step "exec Expr"; k_dflt (refine ks_wpAt_Expr_any ?_))
      | ((try dsimp only); ks_step "execs cons"; k_dflt (refine ks_wpAt_execs_cons ?_))
      | ((with_reducible show wpAny _ _ (call (Value.ref _) _) _ _ _); k_here; k_dflt (refine' initK ?k1 ?k2 ?k3 ?k4 ?_; (case k1 => k_asm); (case k2 => k_asm); (case k3 => k_mem); (case k4 => k_mem); intro h' F' N'; (try k_sweep)))
      | ((with_reducible show wpAny _ _ (getMethod (Value.ref _) _ _) _ _ _); k_here; (with_reducible show wpAny _ _ (getMethod (Value.ref _) (PySem.Str.ofString "__init__") _) _ _ _); k_dflt (refine' getm_supK bb_init (mwObj "list.__init__" _) rfl (fun _ _ _ _ _ _ _ _ _ _ e1 e2 e3 => get_init e1 e2 e3) ?k1 ?k2 ?k3 ?k4 ?k5 ?k6 ?k7 ?k8 ?k9 ?_; (case k1 => k_asm); (case k2 => k_asm); (case k3 => k_asm); (case k4 => k_mem); (case k5 => k_inst); (case k6 => k_is); (case k7 => ks_is); (case k8 => kernel_rfl); (case k9 => decide); intro q' h' F' N' l1; (try k_lt l1)))
      | ((with_reducible show wpAny _ _ (setAttr (Value.ref _) _ _) _ _ _); k_here; k_dflt (refine' set_accL ?k1 ?k2 ?k3 ?k4 ?k5 ?k6 ?k7 ?k8 ?k9 ?k10 ?k11 ?k12 ?k13 ?_; (case k1 => k_asm); (case k2 => k_asm); (case k3 => k_asm); (case k4 => k_inst); (case k5 => exact rfl); (case k6 => k_is); (case k7 => kernel_rfl); (case k8 => k_is); (case k9 => k_is); (case k10 => k_get); (case k11 => k_put); (case k12 => k_upd); (case k13 => exact Nat.le_of_ble_eq_true rfl); k_whole; intro h' F' N'; (try k_sweep))))
    | (k_unfold; (try dsimp only)) | (k_end; kc_close) | walk1 | (dsimp only; walk1) | (leave1; (try dsimp only)) | fail "no step")
  all_goals first
    | (refine' hret _ _ _ _ ?F ?N; (case F => k_asm); (case N => (rw [pop_nil (by omega)]; exact led_tail (by k_asm))))
    | (refine' hret _ _ _ _ ?F ?N; (case F => k_asm); (case N => exact led_tail (led_tail (by k_asm))))
end Mine
end
section
open PySem PySem.W PyProof.Rows
set_option maxRecDepth 100000
set_option maxHeartbeats 8000000
namespace Mine
local macro_rules | `(tactic| k_mem) => `(tactic| assumption)

theorem reset_ok : ∀ (x dx l : Addr) (its : Array Value) (n : Nat) (tk0 t0 : Tok) (vs : List Value) (nl : Nat), ∀ (w : World) (mean : ExcName → Option Value) (mg mb : Str → Option Value)
   (dp un : Nat) (gd : Option (List Code)) (cn : Str) (cs : Scope) (a : Addr) (ccd : Value) (cl : List (Str × Addr)) (outer : List Env) (A₀ : Around) (base h₀ : Heap) (L : Addr) (m : Str → Option Value) (news : List (Addr × Obj)) (s : Shared)
    (Q E : Value → Shared → Prop)
   (B : Below A₀ base outer h₀) (F : Fr h₀ L s.heap m) (X : (hd.heap_39 w.params).In h₀) (N : News h₀ L s.heap news) (T : Top p0 loose0 mean mg mb h₀) (hk : cs.kind = .function) (hd : dp + 20 < recursionLimit) (hu : un + 200 < cLine) (hx : News h₀ L s.heap ((x, accObj dx its n) :: (dx, sizeDict w tk0 t0) :: news)) (hl : (l, listOf vs.toArray nl) ∈ news) (hxl : @Ne Nat x l) (hne : ∀ p ∈ news, p.1 ≠ x) (hne' : ∀ p ∈ news, p.1 ≠ dx) (hxd : @Ne Nat x dx) (hz : its.size + vs.length ≤ 1000)
   (hret : ∀ (n' : Nat) (t' : Tok) (h' : Heap) (tk' : Nat), Fr h₀ L h' m → News h₀ L h' ((x, accObj dx vs.toArray n') :: (dx, sizeDict w tk0 t') :: news) → Q .none { s with heap := h', toks := tk' }),
   wpAny (model PySem.Challenge.rw_op0008_01.row.prog w) (ktrTop dp un gd cn cs L a ccd cl outer) (call (.ref 83) [.ref x, .ref l]) Q E s := by
  w_top off
  k_fill
  intro x dx l its n tk0 t0 vs nl w mean mg mb dp un gd cn cs a ccd cl outer A₀ base h₀ L m news s Q E B F X N T hk hd hu hx hl hxl hne hne' hxd hz hret
  clear N
  refine wpAny_call ?_
  k_dflt ((refine' code_def ?k1 ?k2 ?k3 ?k4 ?k5 ?kA ?kF ?kK ?k6 ?k7 ?k8 ?k9 ?kB ?_ ?c2 ?c3 ?c4 ?c5; (case kA => exact rfl); (case kF => exact rfl); (case kK => first | exact rfl | assumption); (case k1 => k_asm); (case k2 => k_asm); (case k3 => k_asm); (case k4 => k_asm); (case k5 => k_asm); (case k6 => k_is); (case k7 => k_is); (case k8 => ktr_room); (case k9 => first | exact BindsTo.of_eq rfl | exact binds_K (by k_in) rfl (by k_is) rfl rfl rfl); (case c5 => decide); (case kB => exact locs rfl); (case c2 => exact rfl); (case c3 => exact rfl); (case c4 => exact rfl); k_whole; intro g' L' h' FG' F' N' B' X' T'; (try dsimp only); (try k_lift B'); (try k_fold)))
  repeat' (first
    | (first
      | ((with_reducible show wpAny _ _ (setItem (Value.ref _) (Value.ref _) _) _ _ _); k_here; k_dflt (refine' setsliceK ?k1 ?k2 ?k3 ?k4 ?k5 ?k6 ?k7 ?k8 ?k9 ?k10 ?_; (case k1 => k_asm); (case k2 => k_asm); (case k3 => k_asm); (case k4 => kernel_rfl); (case k5 => k_is); (case k6 => k_mem); (case k7 => first | assumption | omega); (case k8 => k_upd); (case k9 => exact rfl); (case k10 => (simp only [List.size_toArray]; rw [sizeLine_eq]; omega)); intro h' F' N'; (try k_sweep)))
      | ((with_reducible show wpAny _ _ (getMethod (Value.ref _) _ _) _ _ _); k_here; (with_reducible show wpAny _ _ (getMethod (Value.ref _) (PySem.Str.ofString "__init__") _) _ _ _); k_dflt (refine' getm_supK bb_init (mwObj "list.__init__" _) rfl (fun _ _ _ _ _ _ _ _ _ _ e1 e2 e3 => get_init e1 e2 e3) ?k1 ?k2 ?k3 ?k4 ?k5 ?k6 ?k7 ?k8 ?k9 ?_; (case k1 => k_asm); (case k2 => k_asm); (case k3 => k_asm); (case k4 => k_mem); (case k5 => k_inst); (case k6 => k_is); (case k7 => ks_is); (case k8 => kernel_rfl); (case k9 => decide); intro q' h' F' N' l1; (try k_lt l1)))
      | ((with_reducible show wpAny _ _ (setAttr (Value.ref _) _ _) _ _ _); k_here; k_dflt (refine' set_accL ?k1 ?k2 ?k3 ?k4 ?k5 ?k6 ?k7 ?k8 ?k9 ?k10 ?k11 ?k12 ?k13 ?_; (case k1 => k_asm); (case k2 => k_asm); (case k3 => k_asm); (case k4 => k_inst); (case k5 => exact rfl); (case k6 => k_is); (case k7 => kernel_rfl); (case k8 => k_is); (case k9 => k_is); (case k10 => k_get); (case k11 => k_put); (case k12 => k_upd); (case k13 => exact Nat.le_of_ble_eq_true rfl); k_whole; intro h' F' N'; (try k_sweep))))
    | (k_unfold; (try dsimp only)) | (k_end; kc_close) | walk1 | (dsimp only; walk1) | (leave1; (try dsimp only)) | fail "no step")
  exact hret _ _ _ _ (by k_asm) (by k_asm)
end Mine
end
section
open PySem PySem.W PyProof.Rows
set_option maxRecDepth 100000
set_option maxHeartbeats 8000000
namespace Mine
local macro_rules | `(tactic| k_mem) => `(tactic| assumption)

theorem sep_str_ok : ∀ (x : Str) (t : Tok), ∀ (w : World) (mean : ExcName → Option Value) (mg mb : Str → Option Value)
   (dp un : Nat) (gd : Option (List Code)) (cn : Str) (cs : Scope) (a : Addr) (ccd : Value) (cl : List (Str × Addr)) (outer : List Env) (A₀ : Around) (base h₀ : Heap) (L : Addr) (m : Str → Option Value) (news : List (Addr × Obj)) (s : Shared)
    (Q E : Value → Shared → Prop)
   (B : Below A₀ base outer h₀) (F : Fr h₀ L s.heap m) (X : (hd.heap_39 w.params).In h₀) (N : News h₀ L s.heap news) (T : Top p0 loose0 mean mg mb h₀) (hk : cs.kind = .function) (hd : dp + 20 < recursionLimit) (hu : un + 200 < cLine)
   (hret : ∀ (t : Tok) (h' : Heap) (tk' : Nat), Fr h₀ L h' m → News h₀ L h' news → Q (.str (Str.ofString "/") t) { s with heap := h', toks := tk' }),
   wpAny (model PySem.Challenge.rw_op0008_01.row.prog w) (ktrTop dp un gd cn cs L a ccd cl outer) (call (.ref 120) [.str x t]) Q E s := by
  w_top off
  k_fill
  intro x t w mean mg mb dp un gd cn cs a ccd cl outer A₀ base h₀ L m news s Q E B F X N T hk hd hu hret
  refine wpAny_call ?_
  k_dflt ((refine' code_def ?k1 ?k2 ?k3 ?k4 ?k5 ?kA ?kF ?kK ?k6 ?k7 ?k8 ?k9 ?kB ?_ ?c2 ?c3 ?c4 ?c5; (case kA => exact rfl); (case kF => exact rfl); (case kK => first | exact rfl | assumption); (case k1 => k_asm); (case k2 => k_asm); (case k3 => k_asm); (case k4 => k_asm); (case k5 => k_asm); (case k6 => k_is); (case k7 => k_is); (case k8 => ktr_room); (case k9 => first | exact BindsTo.of_eq rfl | exact binds_K (by k_in) rfl (by k_is) rfl rfl rfl); (case c5 => decide); (case kB => exact locs rfl); (case c2 => exact rfl); (case c3 => exact rfl); (case c4 => exact rfl); k_whole; intro g' L' h' FG' F' N' B' X' T'; (try dsimp only); (try k_lift B'); (try k_fold)))
  k_steps
  exact hret _ _ _ (by k_asm) (by k_asm)
theorem sep_bytes_ok : ∀ (x : Array UInt8) (t : Tok), ∀ (w : World) (mean : ExcName → Option Value) (mg mb : Str → Option Value)
   (dp un : Nat) (gd : Option (List Code)) (cn : Str) (cs : Scope) (a : Addr) (ccd : Value) (cl : List (Str × Addr)) (outer : List Env) (A₀ : Around) (base h₀ : Heap) (L : Addr) (m : Str → Option Value) (news : List (Addr × Obj)) (s : Shared)
    (Q E : Value → Shared → Prop)
   (B : Below A₀ base outer h₀) (F : Fr h₀ L s.heap m) (X : (hd.heap_39 w.params).In h₀) (N : News h₀ L s.heap news) (T : Top p0 loose0 mean mg mb h₀) (hk : cs.kind = .function) (hd : dp + 20 < recursionLimit) (hu : un + 200 < cLine)
   (hret : ∀ (t : Tok) (h' : Heap) (tk' : Nat), Fr h₀ L h' m → News h₀ L h' news → Q (.bytes #[47] t) { s with heap := h', toks := tk' }),
   wpAny (model PySem.Challenge.rw_op0008_01.row.prog w) (ktrTop dp un gd cn cs L a ccd cl outer) (call (.ref 120) [.bytes x t]) Q E s := by
  w_top off
  k_fill
  intro x t w mean mg mb dp un gd cn cs a ccd cl outer A₀ base h₀ L m news s Q E B F X N T hk hd hu hret
  refine wpAny_call ?_
  k_dflt ((refine' code_def ?k1 ?k2 ?k3 ?k4 ?k5 ?kA ?kF ?kK ?k6 ?k7 ?k8 ?k9 ?kB ?_ ?c2 ?c3 ?c4 ?c5; (case kA => exact rfl); (case kF => exact rfl); (case kK => first | exact rfl | assumption); (case k1 => k_asm); (case k2 => k_asm); (case k3 => k_asm); (case k4 => k_asm); (case k5 => k_asm); (case k6 => k_is); (case k7 => k_is); (case k8 => ktr_room); (case k9 => first | exact BindsTo.of_eq rfl | exact binds_K (by k_in) rfl (by k_is) rfl rfl rfl); (case c5 => decide); (case kB => exact locs rfl); (case c2 => exact rfl); (case c3 => exact rfl); (case c4 => exact rfl); k_whole; intro g' L' h' FG' F' N' B' X' T'; (try dsimp only); (try k_lift B'); (try k_fold)))
  k_steps
  exact hret _ _ _ (by k_asm) (by k_asm)
end Mine
end
section
open PySem PySem.W PyProof.Rows
set_option maxRecDepth 100000
set_option maxHeartbeats 1000000
namespace Mine
section
variable {prog : Program} {w : World} {A : Around} {E : Value → Shared → Prop} {s : Shared}
theorem eqBool_bytes {x y : Array UInt8} {t u : Tok} {Q : Bool → Shared → Prop} (h : Q (decide (x = y)) s) : wpAny (model prog w) A (eqBool (.bytes x t) (.bytes y u)) Q E s := by
  unfold eqBool
  show wpAny _ _ (if (Value.bytes x t == Value.bytes y u) = true then _ else _) Q E s
  by_cases hab : (Value.bytes x t == Value.bytes y u) = true
  · rw [if_pos hab]
    have e : x = y := by have := eq_of_beq hab; injection this
    subst e
    exact wpAny_bind (wpAny_rule (wpAny_pure (by simpa using h)))
  · rw [if_neg hab]
    have e : (x.toList == y.toList) = decide (x = y) := by
      rw [Bool.eq_iff_iff, beq_iff_eq, decide_eq_true_eq]
      exact Array.toList_inj
    exact wpAny_bind (W.eq_bytes (wpAny_truthy_bool (by rw [e]; exact h)))
def isBytesOf (k : Array UInt8) : Value → Bool
  | .bytes i _ => decide (i = k)
  | _ => false
theorem notin_bytes2 {l : Addr} {a b k : Array UInt8} {t1 t2 t : Tok} {Q : Value → Shared → Prop} (hl : s.heap.IsList l [Value.bytes a t1, Value.bytes b t2].toArray)
    (h : Q (.bool (!(decide (a = k) || decide (b = k)))) s) : wpAny (model prog w) A (compareOp .NotIn (.bytes k t) (.ref l)) Q E s := by
  refine SeqInW.notIn_listW (isBytesOf k) (fun y hy => ?_) hl (by simpa [isBytesOf] using h)
  have hy' : y = .bytes a t1 ∨ y = .bytes b t2 := by simpa using hy
  rcases hy' with rfl | rfl
  · exact fun _ _ _ _ _ _ h => eqBool_bytes h
  · exact fun _ _ _ _ _ _ h => eqBool_bytes h
end
theorem bx_eq {q r : Array UInt8} (h : (q.toList == r.toList) = true) : Tx.b q = Tx.b r := by
  rw [beq_iff_eq] at h; rw [Array.toList_inj.mp h]
theorem bx_ne {q r : Array UInt8} (h : (q.toList == r.toList) = false) : Tx.b q ≠ Tx.b r := by
  intro e; injection e with e; rw [e] at h; simp at h
theorem bx_in {q a b : Array UInt8} (h : (decide (a = q) || decide (b = q)) = true) : Tx.b q ∈ [Tx.b a, Tx.b b] := by
  simp at h ⊢
  rcases h with h | h
  · exact .inl h.symm
  · exact .inr h.symm
theorem bx_notin {q a b : Array UInt8} (h : (decide (a = q) || decide (b = q)) = false) : Tx.b q ∉ [Tx.b a, Tx.b b] := by
  simp at h ⊢
  exact ⟨fun e => h.1 e.symm, fun e => h.2 e.symm⟩
end Mine
end
section
open PySem PySem.W PyProof.Rows
set_option maxRecDepth 100000
set_option maxHeartbeats 8000000
namespace Mine
local macro_rules | `(tactic| k_mem) => `(tactic| first | assumption | exact List.mem_append.mpr (.inr (by k_mem)) | exact List.mem_append.mpr (.inl (by k_mem)))

local macro_rules | `(tactic| walk_at "MY dx") => `(tactic| first | assumption | exact List.mem_append.mpr (.inr (by walk_at "MY dx")) | exact List.mem_append.mpr (.inl (by walk_at "MY dx")) | exact List.mem_cons_of_mem _ (by walk_at "MY dx"))

section
theorem walk_str_ok : ∀ (x dx pl sl : Addr) (its : List Value) (n nn ns : Nat) (tk0 t0 t1 t2 t3 : Tok) (vs : List Value) (xs : List Str) (ps : List (Tx × Tx)), ∀ (w : World) (mean : ExcName → Option Value) (mg mb : Str → Option Value)
   (dp un : Nat) (gd : Option (List Code)) (cn : Str) (cs : Scope) (a : Addr) (ccd : Value) (cl : List (Str × Addr)) (outer : List Env) (A₀ : Around) (base h₀ : Heap) (L : Addr) (m : Str → Option Value) (news : List (Addr × Obj)) (s : Shared)
    (Q E : Value → Shared → Prop)
   (B : Below A₀ base outer h₀) (F : Fr h₀ L s.heap m) (X : (hd.heap_39 w.params).In h₀) (N : News h₀ L s.heap news) (T : Top p0 loose0 mean mg mb h₀) (hk : cs.kind = .function) (hd : dp + 80 < recursionLimit) (hu : un + 800 < cLine) (hx : News h₀ L s.heap ((x, accObj dx its.toArray n) :: news)) (hdx : (dx, sizeDict w tk0 t0) ∈ news) (hne : ∀ p ∈ news, p.1 ≠ x)
   (hpl : (pl, listOf vs.toArray nn) ∈ news) (hsl : (sl, listOf [Value.str (Str.ofString "") t1, Value.str (Str.ofString ".") t2].toArray ns) ∈ news) (hvs : TxsAre vs (xs.map .s)) (hP : Pairs news its ps) (hz : ps.length + xs.length ≤ 1000)
   (hret : ∀ (its' : List Value) (n' : Nat) (tl : List (Addr × Obj)) (h' : Heap) (tk' : Nat), Pairs (tl ++ news) its' (walkAll (.s (Str.ofString "/")) (.s (Str.ofString "..")) [.s (Str.ofString ""), .s (Str.ofString ".")] ps (xs.map .s)) → Fr h₀ L h' m → News h₀ L h' ((x, accObj dx its'.toArray n') :: (tl ++ news)) → (∀ p ∈ tl, p.1 ≠ x) → Q .none { s with heap := h', toks := tk' }),
   wpAny (model PySem.Challenge.rw_op0008_01.row.prog w) (ktrTop dp un gd cn cs L a ccd cl outer) (call (.ref 141) [.ref x, .ref pl, .ref sl, .str (Str.ofString "..") t3]) Q E s := by
  w_top off
  k_fill
  intro x dx pl sl its n nn ns tk0 t0 t1 t2 t3 vs xs ps w mean mg mb dp un gd cn cs a ccd cl outer A₀ base h₀ L m news s Q E B F X N T hk hd hu hx hdx hne hpl hsl hvs hP hz hret
  clear N
  refine wpAny_call ?_
  k_dflt ((refine' code_def ?k1 ?k2 ?k3 ?k4 ?k5 ?kA ?kF ?kK ?k6 ?k7 ?k8 ?k9 ?kB ?_ ?c2 ?c3 ?c4 ?c5; (case kA => exact rfl); (case kF => exact rfl); (case kK => first | exact rfl | assumption); (case k1 => k_asm); (case k2 => k_asm); (case k3 => k_asm); (case k4 => k_asm); (case k5 => k_asm); (case k6 => k_is); (case k7 => k_is); (case k8 => ktr_room); (case k9 => first | exact BindsTo.of_eq rfl | exact binds_K (by k_in) rfl (by k_is) rfl rfl rfl); (case c5 => decide); (case kB => exact locs rfl); (case c2 => exact rfl); (case c3 => exact rfl); (case c4 => exact rfl); k_whole; intro g' L' h' FG' F' N' B' X' T'; (try dsimp only); (try k_lift B'); (try k_fold)))
  repeat' (first
    | (first
      | ((with_reducible show wpAny _ _ (pyIter (Value.ref _)) _ _ _); k_here; k_dflt (refine' walk_loop (f := walkStep (.s (Str.ofString "/")) (.s (Str.ofString "..")) [.s (Str.ofString ""), .s (Str.ofString ".")]) ?F ?N ?hh ?hl ?vs ?ps ?ny ?hB ?tu ?dn; (case F => k_asm); (case N => k_asm); (case hh => exact rfl); (case hl => assumption); (case vs => assumption); (case ps => assumption); (case ny => assumption); (case hB => exact walk_bound _ _ _ _ _)); (case' tu => intro i9 p9 v9 its9 n9 tl9 h9 tk9 own9 hp9 hv9 hb9 hP9 hQ9 hty9 hall9 hoff9 F9 N9; obtain ⟨q9, t9, e9, f9⟩ := tx_str hp9 hv9; subst e9 f9; rw [List.length_map] at hb9); (case' dn => intro its9 n9 tl9 u9 h9 tk9 hP9 hty9 F9 N9))
      | ((with_reducible show wpAny _ _ (compareOp CmpOp.NotIn (Value.str _ _) (Value.ref _)) _ _ _); k_here; k_dflt (refine' notin_list_strs ?hl ?hi ?_; (case hl => exact News.isList (by k_asm) (by k_mem)); (case hi => exact .cons _ _ (.cons _ _ .nil)); k_whole))
      | ((with_reducible show wpAny _ _ (call (Value.ref _) _) _ _ _); k_here; k_dflt (show wpAny _ _ (call (Value.ref 61) [Value.ref _]) _ _ _); k_dflt (refine' pop_ok _ _ _ _ _ _ _ _ _ _ _ _ _ _ _ _ _ _ _ _ _ _ _ _ _ _ _ _ ?k1 ?k2 ?k3 ?k4 ?k5 ?kK ?kd ?ku ?hx ?hdx ?hne ?hz ?_; (case k1 => k_asm); (case k2 => k_asm); (case k3 => k_asm); (case hx => k_asm); (case k4 => exact led_tail (by k_asm)); (case k5 => k_asm); (case kK => first | exact rfl | assumption); (case hdx => walk_at "MY dx"); (case hne => assumption); (case hz => (simp only [List.size_toArray]; rw [sizeLine_eq]; omega)); (case kd => ktr_room); (case ku => ktr_units); intro v9 n9 h9 tk9 F9 N9; (try dsimp only); (try k_fold)))
      | ((with_reducible show wpAny _ _ (call (Value.ref _) _) _ _ _); k_here; k_dflt (show wpAny _ _ (call (Value.ref 45) [Value.ref _, _, _]) _ _ _); k_dflt (refine' push_ok _ _ _ _ _ _ _ _ _ _ _ _ _ _ _ _ _ _ _ _ _ _ _ _ _ _ _ _ _ _ ?k1 ?k2 ?k3 ?k4 ?k5 ?kK ?kd ?ku ?hx ?hdx ?hne ?hz ?_; (case k1 => k_asm); (case k2 => k_asm); (case k3 => k_asm); (case hx => k_asm); (case k4 => exact led_tail (by k_asm)); (case k5 => k_asm); (case kK => first | exact rfl | assumption); (case hdx => walk_at "MY dx"); (case hne => assumption); (case hz => (simp only [List.size_toArray]; rw [sizeLine_eq]; omega)); (case kd => ktr_room); (case ku => ktr_units); intro tp9 h9 tk9 F9 N9 l9 x9; (try dsimp only); (try k_fold)))
      | ((with_reducible show wpAny _ _ (call (Value.ref _) _) _ _ _); k_here; k_dflt (show wpAny _ _ (call (Value.ref 120) [Value.bytes _ _]) _ _ _); k_dflt (refine' sep_bytes_ok _ _ _ _ _ _ _ _ _ _ _ _ _ _ _ _ _ _ _ _ _ _ _ _ ?k1 ?k2 ?k3 ?k4 ?k5 ?kK ?kd ?ku ?_; (case k1 => k_asm); (case k2 => k_asm); (case k3 => k_asm); (case k4 => k_asm); (case k5 => k_asm); (case kK => first | exact rfl | assumption); (case kd => ktr_room); (case ku => ktr_units); intro t9 h9 tk9 F9 N9; (try dsimp only); (try k_fold)))
      | ((with_reducible show wpAny _ _ (call (Value.ref _) _) _ _ _); k_here; k_dflt (show wpAny _ _ (call (Value.ref 120) [Value.str _ _]) _ _ _); k_dflt (refine' sep_str_ok _ _ _ _ _ _ _ _ _ _ _ _ _ _ _ _ _ _ _ _ _ _ _ _ ?k1 ?k2 ?k3 ?k4 ?k5 ?kK ?kd ?ku ?_; (case k1 => k_asm); (case k2 => k_asm); (case k3 => k_asm); (case k4 => k_asm); (case k5 => k_asm); (case kK => first | exact rfl | assumption); (case kd => ktr_room); (case ku => ktr_units); intro t9 h9 tk9 F9 N9; (try dsimp only); (try k_fold)))
      | ((with_reducible show wpAny _ _ (exec (Stmt.For _ _ _ _ _) _) _ _ _); k_here; (rename Fr _ _ _ _ => lF'); (with_unfolding_all refine' For_invVF lF' ?k1 ?k2 ?_; (case k1 => exact rfl); (case k2 => exact rfl); k_whole))
      | ((with_reducible show wpAny _ _ (getMethod (Value.ref _) _ _) _ _ _); k_here; k_dflt (refine' getm_accF ?k1 ?k2 ?k3 ?k4 ?k5 ?k6 ?k7 ?_; (case k1 => k_asm); (case k2 => k_asm); (case k3 => k_inst); (case k4 => kernel_rfl); (case k5 => k_is); (case k6 => k_is); (case k7 => k_get); k_whole)))
    | (k_unfold; (try dsimp only)) | (k_end; kc_close) | walk1 | (dsimp only; walk1) | (leave1; (try dsimp only)) | fail "no step")
  · exact hret _ _ _ _ _ (by assumption) (by k_asm) (by k_asm) (by assumption)
  · (refine' walk_end_up ?F ?N ?hp ?ho ?hty ?hQ ?hf ?hm; (case F => k_asm); (case N => k_asm); (case hp => assumption); (case ho => assumption); (case hty => assumption); (case hQ => assumption); (case hf => exact ws_up (tx_eq (by assumption))); (case hm => rfl))
  · (refine' walk_end_still ?F ?N ?hp ?ho ?hty ?hQ ?hf ?hm; (case F => k_asm); (case N => k_asm); (case hp => assumption); (case ho => assumption); (case hty => assumption); (case hQ => assumption); (case hf => exact ws_still (tx_ne (by assumption)) (tx_in (by assumption))); (case hm => rfl))
  · (refine' walk_end_push ?F ?N ?hp ?ho ?hty ?hQ ?hl ?hy ?ha ?hb ?hf ?hm; (case F => k_asm); (case N => k_asm); (case hp => assumption); (case ho => assumption); (case hty => assumption); (case hQ => assumption); (case hl => assumption); (case hy => assumption); (case ha => exact .s _ _); (case hb => exact .s _ _); (case hf => exact ws_push (tx_ne (by assumption)) (tx_notin (by assumption))); (case hm => rfl))
end
section
theorem walk_bytes_ok : ∀ (x dx pl sl : Addr) (its : List Value) (n nn ns : Nat) (tk0 t0 t1 t2 t3 : Tok) (vs : List Value) (xs : List (Array UInt8)) (ps : List (Tx × Tx)), ∀ (w : World) (mean : ExcName → Option Value) (mg mb : Str → Option Value)
   (dp un : Nat) (gd : Option (List Code)) (cn : Str) (cs : Scope) (a : Addr) (ccd : Value) (cl : List (Str × Addr)) (outer : List Env) (A₀ : Around) (base h₀ : Heap) (L : Addr) (m : Str → Option Value) (news : List (Addr × Obj)) (s : Shared)
    (Q E : Value → Shared → Prop)
   (B : Below A₀ base outer h₀) (F : Fr h₀ L s.heap m) (X : (hd.heap_39 w.params).In h₀) (N : News h₀ L s.heap news) (T : Top p0 loose0 mean mg mb h₀) (hk : cs.kind = .function) (hd : dp + 80 < recursionLimit) (hu : un + 800 < cLine) (hx : News h₀ L s.heap ((x, accObj dx its.toArray n) :: news)) (hdx : (dx, sizeDict w tk0 t0) ∈ news) (hne : ∀ p ∈ news, p.1 ≠ x)
   (hpl : (pl, listOf vs.toArray nn) ∈ news) (hsl : (sl, listOf [Value.bytes #[] t1, Value.bytes #[46] t2].toArray ns) ∈ news) (hvs : TxsAre vs (xs.map .b)) (hP : Pairs news its ps) (hz : ps.length + xs.length ≤ 1000)
   (hret : ∀ (its' : List Value) (n' : Nat) (tl : List (Addr × Obj)) (h' : Heap) (tk' : Nat), Pairs (tl ++ news) its' (walkAll (.b #[47]) (.b #[46, 46]) [.b #[], .b #[46]] ps (xs.map .b)) → Fr h₀ L h' m → News h₀ L h' ((x, accObj dx its'.toArray n') :: (tl ++ news)) → (∀ p ∈ tl, p.1 ≠ x) → Q .none { s with heap := h', toks := tk' }),
   wpAny (model PySem.Challenge.rw_op0008_01.row.prog w) (ktrTop dp un gd cn cs L a ccd cl outer) (call (.ref 141) [.ref x, .ref pl, .ref sl, .bytes #[46, 46] t3]) Q E s := by
  w_top off
  k_fill
  intro x dx pl sl its n nn ns tk0 t0 t1 t2 t3 vs xs ps w mean mg mb dp un gd cn cs a ccd cl outer A₀ base h₀ L m news s Q E B F X N T hk hd hu hx hdx hne hpl hsl hvs hP hz hret
  clear N
  refine wpAny_call ?_
  k_dflt ((refine' code_def ?k1 ?k2 ?k3 ?k4 ?k5 ?kA ?kF ?kK ?k6 ?k7 ?k8 ?k9 ?kB ?_ ?c2 ?c3 ?c4 ?c5; (case kA => exact rfl); (case kF => exact rfl); (case kK => first | exact rfl | assumption); (case k1 => k_asm); (case k2 => k_asm); (case k3 => k_asm); (case k4 => k_asm); (case k5 => k_asm); (case k6 => k_is); (case k7 => k_is); (case k8 => ktr_room); (case k9 => first | exact BindsTo.of_eq rfl | exact binds_K (by k_in) rfl (by k_is) rfl rfl rfl); (case c5 => decide); (case kB => exact locs rfl); (case c2 => exact rfl); (case c3 => exact rfl); (case c4 => exact rfl); k_whole; intro g' L' h' FG' F' N' B' X' T'; (try dsimp only); (try k_lift B'); (try k_fold)))
  repeat' (first
    | (first
      | ((with_reducible show wpAny _ _ (pyIter (Value.ref _)) _ _ _); k_here; k_dflt (refine' walk_loop (f := walkStep (.b #[47]) (.b #[46, 46]) [.b #[], .b #[46]]) ?F ?N ?hh ?hl ?vs ?ps ?ny ?hB ?tu ?dn; (case F => k_asm); (case N => k_asm); (case hh => exact rfl); (case hl => assumption); (case vs => assumption); (case ps => assumption); (case ny => assumption); (case hB => exact walk_bound _ _ _ _ _)); (case' tu => intro i9 p9 v9 its9 n9 tl9 h9 tk9 own9 hp9 hv9 hb9 hP9 hQ9 hty9 hall9 hoff9 F9 N9; obtain ⟨q9, t9, e9, f9⟩ := tx_bytes hp9 hv9; subst e9 f9; rw [List.length_map] at hb9); (case' dn => intro its9 n9 tl9 u9 h9 tk9 hP9 hty9 F9 N9))
      | ((with_reducible show wpAny _ _ (compareOp CmpOp.NotIn (Value.bytes _ _) (Value.ref _)) _ _ _); k_here; k_dflt (refine' notin_bytes2 ?hl ?_; (case hl => exact News.isList (by k_asm) (by k_mem)); k_whole))
      | ((with_reducible show wpAny _ _ (call (Value.ref _) _) _ _ _); k_here; k_dflt (show wpAny _ _ (call (Value.ref 61) [Value.ref _]) _ _ _); k_dflt (refine' pop_ok _ _ _ _ _ _ _ _ _ _ _ _ _ _ _ _ _ _ _ _ _ _ _ _ _ _ _ _ ?k1 ?k2 ?k3 ?k4 ?k5 ?kK ?kd ?ku ?hx ?hdx ?hne ?hz ?_; (case k1 => k_asm); (case k2 => k_asm); (case k3 => k_asm); (case hx => k_asm); (case k4 => exact led_tail (by k_asm)); (case k5 => k_asm); (case kK => first | exact rfl | assumption); (case hdx => walk_at "MY dx"); (case hne => assumption); (case hz => (simp only [List.size_toArray]; rw [sizeLine_eq]; omega)); (case kd => ktr_room); (case ku => ktr_units); intro v9 n9 h9 tk9 F9 N9; (try dsimp only); (try k_fold)))
      | ((with_reducible show wpAny _ _ (call (Value.ref _) _) _ _ _); k_here; k_dflt (show wpAny _ _ (call (Value.ref 45) [Value.ref _, _, _]) _ _ _); k_dflt (refine' push_ok _ _ _ _ _ _ _ _ _ _ _ _ _ _ _ _ _ _ _ _ _ _ _ _ _ _ _ _ _ _ ?k1 ?k2 ?k3 ?k4 ?k5 ?kK ?kd ?ku ?hx ?hdx ?hne ?hz ?_; (case k1 => k_asm); (case k2 => k_asm); (case k3 => k_asm); (case hx => k_asm); (case k4 => exact led_tail (by k_asm)); (case k5 => k_asm); (case kK => first | exact rfl | assumption); (case hdx => walk_at "MY dx"); (case hne => assumption); (case hz => (simp only [List.size_toArray]; rw [sizeLine_eq]; omega)); (case kd => ktr_room); (case ku => ktr_units); intro tp9 h9 tk9 F9 N9 l9 x9; (try dsimp only); (try k_fold)))
      | ((with_reducible show wpAny _ _ (call (Value.ref _) _) _ _ _); k_here; k_dflt (show wpAny _ _ (call (Value.ref 120) [Value.bytes _ _]) _ _ _); k_dflt (refine' sep_bytes_ok _ _ _ _ _ _ _ _ _ _ _ _ _ _ _ _ _ _ _ _ _ _ _ _ ?k1 ?k2 ?k3 ?k4 ?k5 ?kK ?kd ?ku ?_; (case k1 => k_asm); (case k2 => k_asm); (case k3 => k_asm); (case k4 => k_asm); (case k5 => k_asm); (case kK => first | exact rfl | assumption); (case kd => ktr_room); (case ku => ktr_units); intro t9 h9 tk9 F9 N9; (try dsimp only); (try k_fold)))
      | ((with_reducible show wpAny _ _ (call (Value.ref _) _) _ _ _); k_here; k_dflt (show wpAny _ _ (call (Value.ref 120) [Value.str _ _]) _ _ _); k_dflt (refine' sep_str_ok _ _ _ _ _ _ _ _ _ _ _ _ _ _ _ _ _ _ _ _ _ _ _ _ ?k1 ?k2 ?k3 ?k4 ?k5 ?kK ?kd ?ku ?_; (case k1 => k_asm); (case k2 => k_asm); (case k3 => k_asm); (case k4 => k_asm); (case k5 => k_asm); (case kK => first | exact rfl | assumption); (case kd => ktr_room); (case ku => ktr_units); intro t9 h9 tk9 F9 N9; (try dsimp only); (try k_fold)))
      | ((with_reducible show wpAny _ _ (exec (Stmt.For _ _ _ _ _) _) _ _ _); k_here; (rename Fr _ _ _ _ => lF'); (with_unfolding_all refine' For_invVF lF' ?k1 ?k2 ?_; (case k1 => exact rfl); (case k2 => exact rfl); k_whole))
      | ((with_reducible show wpAny _ _ (getMethod (Value.ref _) _ _) _ _ _); k_here; k_dflt (refine' getm_accF ?k1 ?k2 ?k3 ?k4 ?k5 ?k6 ?k7 ?_; (case k1 => k_asm); (case k2 => k_asm); (case k3 => k_inst); (case k4 => kernel_rfl); (case k5 => k_is); (case k6 => k_is); (case k7 => k_get); k_whole)))
    | (k_unfold; (try dsimp only)) | (k_end; kc_close) | walk1 | (dsimp only; walk1) | (leave1; (try dsimp only)) | fail "no step")
  · exact hret _ _ _ _ _ (by assumption) (by k_asm) (by k_asm) (by assumption)
  · (refine' walk_end_up ?F ?N ?hp ?ho ?hty ?hQ ?hf ?hm; (case F => k_asm); (case N => k_asm); (case hp => assumption); (case ho => assumption); (case hty => assumption); (case hQ => assumption); (case hf => exact ws_up (bx_eq (by assumption))); (case hm => rfl))
  · (refine' walk_end_still ?F ?N ?hp ?ho ?hty ?hQ ?hf ?hm; (case F => k_asm); (case N => k_asm); (case hp => assumption); (case ho => assumption); (case hty => assumption); (case hQ => assumption); (case hf => exact ws_still (bx_ne (by assumption)) (bx_in (by assumption))); (case hm => rfl))
  · (refine' walk_end_push ?F ?N ?hp ?ho ?hty ?hQ ?hl ?hy ?ha ?hb ?hf ?hm; (case F => k_asm); (case N => k_asm); (case hp => assumption); (case ho => assumption); (case hty => assumption); (case hQ => assumption); (case hl => assumption); (case hy => assumption); (case ha => exact .b _ _); (case hb => exact .b _ _); (case hf => exact ws_push (bx_ne (by assumption)) (bx_notin (by assumption))); (case hm => rfl))
end
end Mine
end
section
open PySem PySem.W PyProof.Rows
set_option maxRecDepth 100000
set_option maxHeartbeats 1000000
namespace Mine
/-- lists with a sign between -/
def joinL {α : Type} (c : α) : List (List α) → List α
  | [] => []
  | [p] => p
  | p :: q :: r => p ++ c :: joinL c (q :: r)
theorem joinL_cons {α : Type} (c : α) (p q : List α) (r : List (List α)) : joinL c (p :: q :: r) = p ++ c :: joinL c (q :: r) := rfl
theorem pre_uniq {α : Type} {c : α} : ∀ {p q x y : List α}, c ∉ p → c ∉ q → p ++ c :: x = q ++ c :: y → p = q ∧ x = y
  | [], [], x, y, _, _, h => by simp at h; exact ⟨rfl, h⟩
  | [], b :: q, x, y, _, h2, h => by simp at h; exact absurd (List.mem_cons.mpr (.inl h.1)) h2
  | a :: p, [], x, y, h1, _, h => by simp at h; exact absurd (List.mem_cons.mpr (.inl h.1.symm)) h1
  | a :: p, b :: q, x, y, h1, h2, h => by
    simp at h
    obtain ⟨e1, e2⟩ := pre_uniq (fun m => h1 (.tail _ m)) (fun m => h2 (.tail _ m)) h.2
    exact ⟨by rw [h.1, e1], e2⟩
theorem joinL_uniq {α : Type} {c : α} : ∀ {a b : List (List α)}, a ≠ [] → b ≠ [] → (∀ p ∈ a, c ∉ p) → (∀ p ∈ b, c ∉ p) → joinL c a = joinL c b → a = b
  | [], _, h, _, _, _, _ => absurd rfl h
  | _, [], _, h, _, _, _ => absurd rfl h
  | [p], [q], _, _, _, _, e => by rw [show p = q from e]
  | [p], q :: q' :: r, _, _, h1, h2, e => by
    rw [joinL_cons] at e
    have : c ∈ p := by rw [show p = _ from e]; simp
    exact absurd this (h1 p (.head _))
  | p :: p' :: r, [q], _, _, h1, h2, e => by
    rw [joinL_cons] at e
    have : c ∈ q := by rw [show q = _ from e.symm]; simp
    exact absurd this (h2 q (.head _))
  | p :: p' :: r, q :: q' :: r', _, _, h1, h2, e => by
    rw [joinL_cons, joinL_cons] at e
    obtain ⟨e1, e2⟩ := pre_uniq (h1 p (.head _)) (h2 q (.head _)) e
    rw [e1, joinL_uniq (by simp) (by simp) (fun x hx => h1 x (.tail _ hx)) (fun x hx => h2 x (.tail _ hx)) e2]
/-- the places of a sign -/
def Cut (b : Array UInt8) : Nat → List Nat → Prop
  | a, [] => ∀ i, a ≤ i → b[i]? ≠ some 47
  | a, p :: ps => a ≤ p ∧ b[p]? = some 47 ∧ (∀ i, a ≤ i → i < p → b[i]? ≠ some 47) ∧ Cut b (p + 1) ps
theorem Cut.down {b : Array UInt8} {a : Nat} (h : b[a]? ≠ some 47) : ∀ {ps : List Nat}, Cut b (a + 1) ps → Cut b a ps
  | [], x => fun i hi => by
    rcases Nat.eq_or_lt_of_le hi with rfl | hi
    · exact h
    · exact x i hi
  | p :: ps, ⟨x1, x2, x3, x4⟩ => ⟨Nat.le_of_succ_le x1, x2, fun i hi hp => by
    rcases Nat.eq_or_lt_of_le hi with rfl | hi
    · exact h
    · exact x3 i hi hp, x4⟩
theorem cut_filter (b : Array UInt8) : ∀ (k a : Nat), a + k = b.size → Cut b a ((List.range' a k).filter fun i => b[i]? == some 47)
  | 0, a, h => by
    intro i hi
    rw [Array.getElem?_eq_none (by omega)]; simp
  | k + 1, a, h => by
    have ih := cut_filter b k (a + 1) (by omega)
    rw [List.range'_succ, List.filter_cons]
    split
    · rename_i hb
      exact ⟨Nat.le_refl _, by simpa using hb, fun i h1 h2 => absurd h1 (Nat.not_le.mpr h2), ih⟩
    · rename_i hb
      exact ih.down (by simpa using hb)
theorem occ_filter (b : Array UInt8) : Builtin.Bytes.occurrences b #[47] 0 b.size = (List.range b.size).filter fun i => b[i]? == some 47 := by
  unfold Builtin.Bytes.occurrences
  have key : ∀ n, n ≤ b.size → ∃ m, m ≤ n ∧ ((List.range n).map (· + 0)).foldl (fun (acc : List Nat × Nat) (i : Nat) => if i ≥ acc.2 && b.extract i (i + (#[47] : Array UInt8).size) == #[47] then (i :: acc.1, i + (#[47] : Array UInt8).size) else acc) ([], 0) = (((List.range n).filter fun i => b[i]? == some 47).reverse, m) := by
    intro n
    induction n with
    | zero => intro _; exact ⟨0, Nat.le_refl _, rfl⟩
    | succ n ih =>
      intro hn
      obtain ⟨m, hm, e⟩ := ih (by omega)
      have hx : (b.extract n (n + (#[47] : Array UInt8).size) == #[47]) = (b[n]? == some 47) := by
        have hlt : n < b.size := by omega
        have : b.extract n (n + 1) = #[b[n]] := by
          apply Array.toList_inj.mp
          simp [List.take_drop, Nat.add_comm]
          apply List.ext_getElem?
          intro i
          cases i with
          | zero => simp [hlt, Nat.add_comm]
          | succ i => simp; omega
        rw [show (#[47] : Array UInt8).size = 1 from rfl, this]
        rw [Bool.eq_iff_iff]
        simp [hlt]
      rw [List.range_succ, List.map_append, List.foldl_append, e, List.filter_append]
      simp only [List.map_cons, List.map_nil, List.foldl_cons, List.foldl_nil, Nat.add_zero]
      rw [hx]
      have hnm : decide (n ≥ m) = true := by simpa using hm
      simp only [hnm, Bool.true_and]
      cases hb : (b[n]? == some 47)
      · exact ⟨m, by omega, by simp [hb]⟩
      · exact ⟨n + 1, Nat.le_refl _, by simp [hb]⟩
  obtain ⟨m, _, e⟩ := key b.size (Nat.le_refl _)
  have e0 : b.size + 1 - (0 + (#[47] : Array UInt8).size) = b.size := by simp
  dsimp only
  rw [e0, e]
  simp
def betweenL (b : Array UInt8) : Nat → List Nat → List (Array UInt8)
  | a, [] => [b.extract a b.size]
  | a, p :: ps => b.extract a p :: betweenL b (p + 1) ps
theorem between_eq (b : Array UInt8) (ps : List Nat) : Builtin.Bytes.between b 1 ps = betweenL b 0 ps := by
  have key : ∀ (ps : List Nat) (acc : Array (Array UInt8)) (a : Nat), (((ps.foldl (fun (x : Array (Array UInt8) × Nat) p => (x.1.push (b.extract x.2 p), p + 1)) (acc, a)).1).push (b.extract (ps.foldl (fun (x : Array (Array UInt8) × Nat) p => (x.1.push (b.extract x.2 p), p + 1)) (acc, a)).2 b.size)).toList = acc.toList ++ betweenL b a ps := by
    intro ps
    induction ps with
    | nil => intro acc a; simp [betweenL]
    | cons p ps ih => intro acc a; rw [List.foldl_cons]; rw [ih]; simp [betweenL]
  have := key ps #[] 0
  simpa [Builtin.Bytes.between] using this
theorem betweenL_ne (b : Array UInt8) (a : Nat) (ps : List Nat) : ∃ p r, betweenL b a ps = p :: r := by
  cases ps with
  | nil => exact ⟨_, _, rfl⟩
  | cons p ps => exact ⟨_, _, rfl⟩
theorem ext_list (b : Array UInt8) (i j : Nat) : (b.extract i j).toList = (b.toList.drop i).take (j - i) := by
  simp [List.extract]
theorem in_cut {b : Array UInt8} {a n : Nat} (h : ∀ i, a ≤ i → i < a + n → b[i]? ≠ some 47) : (47 : UInt8) ∉ (b.toList.drop a).take n := by
  intro hm
  obtain ⟨i, e⟩ := List.mem_iff_getElem?.mp hm
  rw [List.getElem?_take] at e
  split at e
  · rename_i hi
    rw [List.getElem?_drop] at e
    exact h (a + i) (Nat.le_add_right _ _) (by omega) (by simpa using e)
  · cases e
theorem betweenL_law (b : Array UInt8) : ∀ (ps : List Nat) (a : Nat), Cut b a ps → joinL 47 ((betweenL b a ps).map (·.toList)) = b.toList.drop a ∧ ∀ p ∈ (betweenL b a ps).map (·.toList), (47 : UInt8) ∉ p
  | [], a, h => by
    have e : (b.extract a b.size).toList = (b.toList.drop a).take (b.size - a) := ext_list b a b.size
    refine ⟨?_, fun p hp => ?_⟩
    · show (b.extract a b.size).toList = _
      rw [e]; exact List.take_of_length_le (by simp)
    · simp only [betweenL, List.map_cons, List.map_nil, List.mem_singleton] at hp
      rw [hp, e]
      exact in_cut fun i hi _ => h i hi
  | p :: ps, a, ⟨h1, h2, h3, h4⟩ => by
    obtain ⟨e1, e2⟩ := betweenL_law b ps (p + 1) h4
    have e := ext_list b a p
    have hpe : b.toList[p]? = some 47 := by simpa using h2
    constructor
    · obtain ⟨q, r, hq⟩ := betweenL_ne b (p + 1) ps
      have hd : b.toList.drop a = (b.toList.drop a).take (p - a) ++ 47 :: b.toList.drop (p + 1) := by
        have h5 : b.toList.drop p = 47 :: b.toList.drop (p + 1) := by
          obtain ⟨hl, he⟩ := List.getElem?_eq_some_iff.mp hpe
          rw [List.drop_eq_getElem_cons hl, he]
        rw [← h5]
        have h6 : b.toList.drop p = (b.toList.drop a).drop (p - a) := by rw [List.drop_drop, show a + (p - a) = p by omega]
        rw [h6, List.take_append_drop]
      simp only [betweenL, List.map_cons]
      rw [hq] at e1 ⊢
      rw [List.map_cons, joinL_cons, ← List.map_cons, e1, e, ← hd]
    · intro q hq
      simp only [betweenL, List.map_cons, List.mem_cons] at hq
      rcases hq with rfl | hq
      · rw [e]
        exact in_cut fun i hi hj => h3 i hi (by omega)
      · exact e2 q hq
/-- octets cut at the slash -/
def splitB (b : Array UInt8) : List (Array UInt8) := betweenL b 0 ((List.range b.size).filter fun i => b[i]? == some 47)
theorem splitB_law (b : Array UInt8) : joinL 47 ((splitB b).map (·.toList)) = b.toList ∧ ∀ p ∈ (splitB b).map (·.toList), (47 : UInt8) ∉ p := by
  have := betweenL_law b _ 0 (cut_filter b b.size 0 (Nat.zero_add _))
  rw [← List.range_eq_range'] at this
  exact this
theorem splitB_ne (b : Array UInt8) : splitB b ≠ [] := by
  obtain ⟨p, r, e⟩ := betweenL_ne b 0 ((List.range b.size).filter fun i => b[i]? == some 47)
  unfold splitB; rw [e]; simp
theorem splitB_whole {b : Array UInt8} (h : ((List.range b.size).filter fun i => b[i]? == some 47) = []) : splitB b = [b] := by
  unfold splitB; rw [h]
  show [b.extract 0 b.size] = [b]
  simp
theorem betweenL_len (b : Array UInt8) : ∀ (ps : List Nat) (a : Nat), (betweenL b a ps).length = ps.length + 1
  | [], _ => rfl
  | p :: ps, _ => by rw [betweenL, List.length_cons, betweenL_len b ps, List.length_cons]
theorem splitB_len (b : Array UInt8) : (splitB b).length ≤ b.size + 1 := by
  unfold splitB
  rw [betweenL_len]
  have := List.length_filter_le (fun i => b[i]? == some (47 : UInt8)) (List.range b.size)
  rw [List.length_range] at this
  omega
/-- octets from a join -/
theorem splitB_join {b : Array UInt8} {ps : List (Array UInt8)} (h0 : ps ≠ []) (hf : ∀ p ∈ ps, (47 : UInt8) ∉ p.toList) (h : b.toList = joinL 47 (ps.map (·.toList))) : splitB b = ps := by
  obtain ⟨h1, h2⟩ := splitB_law b
  have := joinL_uniq (by simp [splitB_ne]) (by simpa using h0) h2 (by intro p hp; obtain ⟨q, hq, rfl⟩ := List.mem_map.mp hp; exact hf q hq) (h1.trans h)
  exact List.map_inj_right (fun a b e => Array.toList_inj.mp e) |>.mp this
end Mine
end
section
open PySem PySem.W PyProof.Rows
set_option maxRecDepth 100000
set_option maxHeartbeats 1000000
namespace Mine
theorem slot_bsplit : Slot "bytes" (Str.ofString "split") "bytes.split" :=
  .of (owner := "bytes") (n := "split") (by rw [typeLookup_type, builtinLookup_eq_fast]; kernel_rfl) (by decide +kernel) (by decide +kernel) (by decide +kernel)
    (by first | exact .inl (by decide +kernel) | exact .inr (by decide +kernel)) (by rw [isSubtype_type]; kernel_rfl)
theorem type_bsplit : typeOf (.builtin "bytes.split") = pure (.type "method_descriptor") := by show builtinType _ = _; rw [builtinType_eq_fast]; kernel_rfl
theorem entry_bsplit : entryFor table "bytes.split" = some Builtin.«bytes.split» := entryFor_of_tree (by kernel_rfl)
theorem args_bsplit (a b : Value) : argsOk "bytes.split" ⟨[a, b], []⟩ := by unfold argsOk; kernel_rfl
theorem bnew_eq (b : Array UInt8) : Builtin.Bytes.Kind.new .bytes b = mkBytes b := rfl
section
variable {M : Model} {prog : Program} {w : World} {A : Around} {E : Value → Shared → Prop} {s : Shared}
theorem mapM_bytes : ∀ (xs : List (Array UInt8)) (s : Shared) (Q : List Value → Shared → Prop), (∀ x ∈ xs, x.size ≤ sizeLine) → (∀ vs tk, TxsAre vs (xs.map .b) → Q vs { s with toks := tk }) → wpAny M A (xs.mapM (Builtin.Bytes.Kind.new .bytes)) Q E s
  | [], s, Q, _, h => by rw [List.mapM_nil]; exact wpAny_pure (h [] s.toks .nil)
  | x :: r, s, Q, hx, h => by
    rw [List.mapM_cons]
    refine wpAny_bind ?_
    rw [bnew_eq]
    refine wpAny_mkBytes (wpAny_bind (mapM_bytes r _ _ (fun y hy => hx y (List.mem_cons_of_mem _ hy)) fun vs tk hv => wpAny_pure ?_)) (hx x (List.mem_cons_self ..))
    exact h _ _ (.cons (.b _ _) hv)
theorem gm_bsplit {b : Array UInt8} {t : Tok} {pl : Sem Bool} {Q : Value × List Value → Shared → Prop} (h : Q (.builtin "bytes.split", [.bytes b t]) s) : wpAny M A (getMethod (.bytes b t) (Str.ofString "split") pl) Q E s :=
  KBd.method_of (.bytes b t) (typeIs_bytes _ _ _) slot_bsplit type_bsplit KBd.noRef h
theorem betweenL_small (b : Array UInt8) : ∀ (ps : List Nat) (a : Nat), ∀ p ∈ betweenL b a ps, p.size ≤ b.size
  | [], a, p, hp => by simp only [betweenL, List.mem_singleton] at hp; subst hp; simp
  | q :: ps, a, p, hp => by
    simp only [betweenL, List.mem_cons] at hp
    rcases hp with rfl | hp
    · simp; omega
    · exact betweenL_small b ps (q + 1) p hp
theorem split_bytes {b : Array UInt8} {t u : Tok} {h₀ : Heap} {L : Addr} {m : Str → Option Value} {news : List (Addr × Obj)} {Q : Value → Shared → Prop} (F : Fr h₀ L s.heap m) (N : News h₀ L s.heap news) (hz : b.size ≤ 100000)
    (h : ∀ vs D h' tk, TxsAre vs ((splitB b).map .b) → Fr h₀ L h' m → News h₀ L h' ((D, listOf vs.toArray 0) :: news) → (∀ p ∈ news, p.1 < D) → Q (.ref D) { s with heap := h', toks := tk }) :
    wpAny (model prog w) A (call (.builtin "bytes.split") [.bytes b t, .bytes #[47] u]) Q E s := by
  refine wpAny_call_entry slot_bsplit (typeIs_bytes _ _ _) entry_bsplit ?_ (args_bsplit _ _)
  have ho := occ_filter b
  have fin : ∀ vs tk, TxsAre vs ((splitB b).map .b) → wpAny (model prog w) A.in1 (newList vs >>= fun v => ret v) (fun fin s' => ∃ v, fin = Fin.done (Flow.ret v) ∧ Q v s') E { s with toks := tk } := by
    intro vs tk hv
    have hl := hv.len
    rw [List.length_map] at hl
    have := splitB_len b
    refine wpAny_bind (wpAny_newObj_type (wpAny_pure ⟨_, rfl, h vs _ _ tk hv (F.push _) (News.push F N _) fun p hp => Heap.lt_size (N p hp).1⟩) (by show vs.toArray.size ≤ sizeLine; rw [List.size_toArray, sizeLine_eq]; omega))
  show wpAny (model prog w) A.in1 (do
    let sep ← Builtin.Bytes.bytesLike "bytes.split" (.bytes #[47] u)
    if sep.isEmpty then rule "bytes.split.empty-separator"; raiseError "ValueError" "empty separator"
    let places := (Builtin.Bytes.occurrences b sep 0 b.size).take (b.size + 1)
    if places.isEmpty then rule "bytes.split.no-separator"; return ← ret (← newList [← Builtin.Bytes.Kind.same .bytes (.bytes b t)])
    ret (← newList (← (Builtin.Bytes.between b sep.size places).mapM (Builtin.Bytes.Kind.new .bytes)))) _ _ _
  refine wpAny_bind (wpAny_of_eq KBd.like_eq ?_)
  rw [if_neg (by decide)]
  dsimp only
  rw [ho, List.take_of_length_le (Nat.le_trans (List.length_filter_le _ _) (by rw [List.length_range]; exact Nat.le_succ _))]
  by_cases he : ((List.range b.size).filter fun i => b[i]? == some 47) = []
  · rw [he, show (List.isEmpty ([] : List Nat)) = true from rfl, if_pos rfl]
    refine wpAny_bind (wpAny_rule ?_)
    have hs : Builtin.Bytes.Kind.same .bytes (.bytes b t) = pure (.bytes b t) := rfl
    have f := fin [.bytes b t] s.toks (by rw [splitB_whole he]; exact .cons (.b _ _) .nil)
    exact wpAny_bind (wpAny_of_eq hs f)
  · rw [show ((List.range b.size).filter fun i => b[i]? == some 47).isEmpty = false from by rw [List.isEmpty_eq_false_iff]; exact he, if_neg Bool.false_ne_true]
    refine wpAny_bind ?_
    rw [show (#[47] : Array UInt8).size = 1 from rfl, between_eq]
    refine mapM_bytes _ _ _ (fun x hx => ?_) fun vs tk hv => fin vs tk hv
    have := betweenL_small b _ _ x hx
    rw [sizeLine_eq]; omega
end
end Mine
end
section
open PySem PySem.W PyProof.Rows PySem.Calls
set_option maxRecDepth 100000
set_option maxHeartbeats 1000000
namespace Mine
/-- as RaisedX, the mark of where it flies told -/
def RaisedF (base : Heap) (l : List Env) (e : Addr) (fl : Value) (msg : Str) (news : List (Addr × Obj)) (h : Heap) : Prop :=
  ∃ B u t tm, base.StaysIn B ∧ (∀ q ∈ news, B.get? q.1 = some q.2 ∧ base.get? q.1 = none) ∧ OnWay (PV t u) B l e fl h ∧ base.get? e = none ∧ CtxNone B u ∧ base.get? u = none ∧
    B.get? t = some { cls := .type "tuple", data := .seq #[.str msg tm] } ∧ base.get? t = none
theorem RaisedX.f {base : Heap} {l : List Env} {e : Addr} {msg : Str} {news : List (Addr × Obj)} {h : Heap} (x : RaisedX base l e msg news h) : RaisedF base l e .none msg news h := x
theorem RaisedF.x {base : Heap} {l : List Env} {e : Addr} {msg : Str} {news : List (Addr × Obj)} {h : Heap} (x : RaisedF base l e .none msg news h) : RaisedX base l e msg news h := x
theorem OnWay.less {P : Value → Array Value → Prop} {B B' : Heap} {l : List Env} {e : Addr} {fl : Value} {h : Heap} (x : OnWay P B l e fl h) (k : B'.StaysIn B) : OnWay P B' l e fl h := by
  obtain ⟨a, b, c, oe, vs, T, oT, ts, d1, d2, d3, d4, d5, d6⟩ := x
  exact ⟨fun b o q => a b o (k b o q), fresh_of_stays k b, funFrames_base k c, oe, vs, T, oT, ts, d1, d2, d3, d4, fresh_of_stays k d5, d6⟩
theorem RaisedF.less {base : Heap} {l : List Env} {e : Addr} {fl : Value} {msg : Str} {news news' : List (Addr × Obj)} {h : Heap} (x : RaisedF base l e fl msg news h) (k : ∀ q ∈ news', q ∈ news) : RaisedF base l e fl msg news' h := by
  obtain ⟨B, u, t, tm, a, b, r⟩ := x
  exact ⟨B, u, t, tm, a, fun q hq => b q (k q hq), r⟩
theorem funFrames_on {h h' base : Heap} : ∀ {l : List Env}, h.FunFrames base l → (∀ b ∈ fsOf l, ∀ o, h.get? b = some o → h'.get? b = some o) → h'.FunFrames base l
  | [], _, _ => trivial
  | env :: l, ⟨a, ⟨L, o, hf, hn, ho, hd⟩, r⟩, k => ⟨a, ⟨L, o, hf, hn, k L (in_fs env (.head _) L hf) o ho, hd⟩, funFrames_on r fun b hb o ho => k b (by
      obtain ⟨env', he, hf'⟩ := List.mem_filterMap.mp hb
      exact in_fs env' (.tail _ he) b hf') o ho⟩
section
variable {M : Model} {A : Around} {E : Value → Shared → Prop} {s : Shared} {base : Heap} {l outer : List Env} {e L : Addr} {msg : Str} {news : List (Addr × Obj)} {env : Env} {fl : Value}
theorem RaisedF.note {env' : Env} {Q : Unit → Shared → Prop} (x : RaisedF base (env :: outer) e .none msg news s.heap) (hfr : A.frames = some (env :: outer)) (hf : env.frame = some L) (hf' : env'.frame = some L)
    (h : ∀ h', RaisedF base (env :: outer) e (rawInt L) msg news h' → s.heap.UpToSlots h' → Q () { s with heap := h' }) : wpAny M A (noteFrame (.ref e) env') Q E s := by
  obtain ⟨B, u, t, tm, a, b, c, r⟩ := x
  have he : noteFrame (.ref e) env' = noteFrame (.ref e) env := by
    unfold noteFrame PySem.frameOf
    rw [hf, hf']
  rw [he]
  exact note_onP fits_PV hfr hf c fun h' x' u' => h h' ⟨B, u, t, tm, a, b, x', r⟩ u'
theorem RaisedF.pass {α : Type} {what : String} {env' : Env} {Q : α → Shared → Prop} (x : RaisedF base l e fl msg news s.heap) (hf : env'.frame = some L)
    (h : ∀ h', RaisedF base l e (rawInt L) msg news h' → s.heap.UpToSlots h' → E (.ref e) { s with heap := h' }) : wpAny M A (PySem.passOn what (.ref e) env' : Sem α) Q E s := by
  obtain ⟨B, u, t, tm, a, b, c, r⟩ := x
  have c' := c
  obtain ⟨_, _, _, oe, vs, T, oT, ts, he, h0, hd, h1, _⟩ := c'
  unfold PySem.passOn
  refine wpAny_bind (wpAny_field he hd h1 ?_)
  rw [if_neg (show ¬ ((Value.ref T == Value.none) = true) from by simp)]
  rw [hf]
  exact wpAny_bind (flightP c fun h' x' u' => wpAny_throw (h h' ⟨B, u, t, tm, a, b, x', r⟩ u'))
theorem RaisedF.leave {Q : Unit → Shared → Prop} (x : RaisedF base (env :: outer) e .none msg news s.heap) (hfr : A.frames = some (env :: outer)) (hf : env.frame = some L)
    (h : ∀ h', RaisedF base outer e .none msg news h' → s.heap.UpToSlots h' → Q () { s with heap := h' }) : wpAny M A (leaving env (.ref e)) Q E s := by
  obtain ⟨B, u, t, tm, a, b, c, r⟩ := x
  exact leave_onP fits_PV hfr hf c fun h' x' u' => h h' ⟨B, u, t, tm, a, b, x', r⟩ u'
theorem RaisedF.leaveH {Q : Unit → Shared → Prop} (x : RaisedF base (env :: outer) e (rawInt L) msg news s.heap) (hf : env.frame = some L)
    (h : ∀ h', RaisedF base outer e .none msg news h' → s.heap.UpToSlots h' → Q () { s with heap := h' }) : wpAny M A (leaving env (.ref e)) Q E s := by
  obtain ⟨B, u, t, tm, a, b, c, r⟩ := x
  exact leave_heldP hf c fun h' x' u' => h h' ⟨B, u, t, tm, a, b, x', r⟩ u'
/-- an object of the ledger turns -/
theorem RaisedF.drop {news' : List (Addr × Obj)} {C : Addr} {oC : Obj} {h h' : Heap} (x : RaisedF base l e fl msg news h) (hC : (C, oC) ∈ news) (hd : ∃ es ep, oC.data = .dict es ep) (hCl : C ∉ fsOf l) (hs : Heap.SameBut C h h')
    (k : ∀ q ∈ news', q ∈ news ∧ q.1 ≠ C) : RaisedF base l e fl msg news' h' := by
  obtain ⟨B, u, t, tm, a, b, c, d, f, g, i, j⟩ := x
  obtain ⟨hCB, hCb⟩ := b _ hC
  obtain ⟨es, ep, hd⟩ := hd
  have st : (hideAll B [C]).StaysIn B := fun b o q => of_hideAll _ q
  have c' := c.less st
  obtain ⟨c1, c2, c3, oe, vs, T, oT, ts, d1, d2, d3, d4, d5, d6, d7, d8, d9⟩ := c'
  have n1 : ∀ b, b ≠ C → b ∉ [C] := fun b hb hm => hb (List.mem_singleton.mp hm)
  have heC : e ≠ C := fun q => by
    have := c.stays _ _ hCB
    dsimp only at this
    rw [← q, d1] at this
    cases this
    rw [d3] at hd; cases hd
  have hTC : T ≠ C := fun q => by
    have := c.stays _ _ hCB
    dsimp only at this
    rw [← q, d7] at this
    cases this
    rw [d8] at hd; cases hd
  refine ⟨hideAll B [C], u, t, tm, fun b o q => hideAll_get _ (a b o q) (n1 b fun z => by rw [z, hCb] at q; cases q), fun q hq => ⟨hideAll_get _ (b q (k q hq).1).1 (n1 _ (k q hq).2), (b q (k q hq).1).2⟩,
    ⟨fun b o q => hs.extBut b o (fun z => by rw [z, hideAll_none _ (.head _)] at q; cases q) (c1 b o q), c2, ?_, oe, vs, T, oT, ts, hs.extBut e _ heC d1, d2, d3, d4, d5, d6, hs.extBut T _ hTC d7, d8, d9⟩, d, ?_, g, hideAll_get _ i (n1 _ fun z => ?_), j⟩
  · clear d1 d7
    exact funFrames_on c3 fun b hb o ho => hs.extBut b o (fun z => hCl (z ▸ hb)) ho
  · obtain ⟨o, ws, q1, q2, q3⟩ := f
    exact ⟨o, ws, hideAll_get _ q1 (n1 _ fun z => by rw [z] at q1; rw [q1] at hCB; cases hCB; rw [q2] at hd; cases hd), q2, q3⟩
  · rw [z, hCB] at i; cases i; cases hd
end
end Mine
end
section
open PySem PySem.W PyProof.Rows PySem.Calls
set_option maxRecDepth 100000
set_option maxHeartbeats 1000000
namespace Mine
open PyProof.Rows.LCg (NsObj ns_obj lst)
section
variable {prog : Program} {w : World} {A : Around} {E : Value → Shared → Prop} {s : Shared} {K : Frag} {h₀ base : Heap} {L : Addr} {m : Str → Option Value} {led : List (Addr × Obj)} {env env₀ : Env} {outer : List Env}
variable {scope : Scope} {elt iter : Expr} {xa xb : Str} {pa pb tp pos : Pos} {kt : Nat} {x dx : Addr} {its : List Value} {n : Nat} {vals : List (Value × Value)} {Q : Value → Shared → Prop} {msg : Str}
/-- a list comprehension over the accumulator's pairs; its element may raise -/
theorem comp_acc (J : Nat → List Value → List (Addr × Obj) → Prop) (NA : Prop)
    (hh : A.handled = none) (F : Fr h₀ L s.heap m) (X : K.In h₀) (N : News h₀ L s.heap led) (hov : listOver K 101 = true) (hf : findIn K (.ref 101) "__iter__" = some (some (.builtin "list.__iter__")))
    (hx : (x, accObj dx its.toArray n) ∈ led) (hv : PairVals led its vals) (hz : its.length ≤ 1000)
    (hfree : ∀ y ∈ scope.names, y.2 ≠ .free) (hcell : ∀ y ∈ scope.names, y.2 ≠ .cell) (hkind : scope.kind = .function) (hnames : ∀ y ∈ scope.names, y.2 = .local → scope.names.lookup y.1 = some .local)
    (hxa : scope.names.lookup xa = some .local) (hxb : scope.names.lookup xb = some .local) (hab : xa ≠ xb)
    (hfr : A.frames = some (env₀ :: outer)) (hf0 : env₀.frame = some L) (hfe : env.frame = some L) (hcl : ∀ C, h₀.get? C = none → C ≠ L → C ∉ fsOf (env₀ :: outer))
    (hiter : wpAny (model prog w) A (eval iter env) (fun v s₁ => v = .ref x ∧ s₁ = s) E s)
    (J0 : J 0 [] [])
    (turn : ∀ i u v ys tl (I C D : Addr) (oI oC : Obj) m₂ h tk, vals[i]? = some (u, v) → ys.length = i → J i ys tl → m₂ xa = some u → m₂ xb = some v → NsObj oC m₂ → Fr h₀ L h m →
      News h₀ L h ((I, oI) :: (C, oC) :: (D, lst ys) :: (tl ++ led)) → (∀ p ∈ tl ++ led, p.1 ≠ I ∧ p.1 ≠ C ∧ p.1 ≠ D) →
      wpAny (model prog w) A (eval elt (compEnv scope C env))
        (fun y s₂ => ∃ h' tk' tl', s₂ = { s with heap := h', toks := tk' } ∧ Fr h₀ L h' m ∧ News h₀ L h' ((I, oI) :: (C, oC) :: (D, lst ys) :: (tl' ++ led)) ∧ (∀ p ∈ tl', p.1 ≠ I ∧ p.1 ≠ C ∧ p.1 ≠ D) ∧ J (i + 1) (ys ++ [y]) tl')
        (fun v s₂ => NA ∧ ∃ e h' tk' led', v = .ref e ∧ s₂ = { s with heap := h', toks := tk' } ∧ h₀.UpToSlots h' ∧ RaisedF base (env₀ :: outer) e .none msg led' h' ∧ (C, oC) ∈ led' ∧ ∀ q ∈ led, q ∈ led')
        { s with heap := h, toks := tk })
    (hdone : ∀ ys tl D h' tk', J its.length ys tl → ys.length = its.length → Fr h₀ L h' m → News h₀ L h' ((D, lst ys) :: (tl ++ led)) → (∀ p ∈ tl ++ led, p.1 ≠ D) → Q (.ref D) { s with heap := h', toks := tk' })
    (hraise : NA → ∀ e h' tk', h₀.UpToSlots h' → RaisedF base (env₀ :: outer) e (rawInt L) msg led h' → E (.ref e) { s with heap := h', toks := tk' })
    (hs : ∀ x, foldedSetIterable iter env x = pure x := by intro _; rfl) :
    wpAny (model prog w) A (eval (.ListComp elt [⟨.Tuple [.Name xa pa, .Name xb pb] kt tp, iter, [], 0⟩] scope pos) env) Q E s := by
  refine wpAny_ListComp hfree hkind hnames (wpAny_mono hiter (fun xv s₁ h₁ => ?_) fun _ _ e => e) hs
  obtain ⟨rfl, rfl⟩ := h₁
  refine iter_acc (X.keeps F.keep) hov hf (N _ hx).1 (wpAny_newObj_type (hd := by size_fits) (wpAny_newFunctionEnv hcell (by intro y hy; simp at hy) (fun h₁ hns₁ hsb₁ => ?_) hkind))
  dsimp only at hns₁ hsb₁ ⊢
  have hxs : x < s₁.heap.objs.size := Heap.lt_size (N _ hx).1
  generalize hI : s₁.heap.objs.size = I at hns₁ hsb₁ ⊢
  generalize hH1 : s₁.heap.push { cls := .type "list_iterator", data := .fields #[.ref x, .int 0 0] } = H1 at hns₁ hsb₁ ⊢
  have hD : H1.objs.size = I + 1 := by rw [← hH1, Heap.size_push, hI]
  generalize hDe : H1.objs.size = D at hns₁ hsb₁ hD ⊢
  generalize hH2 : H1.push { cls := .type "list", dict := none, data := .seq ([] : List Value).toArray } = H2 at hns₁ hsb₁ ⊢
  have hC : H2.objs.size = I + 2 := by rw [← hH2, Heap.size_push, hDe, hD]
  generalize hCe : H2.objs.size = C at hns₁ hsb₁ hC ⊢
  have hDI : D ≠ I := by rw [hD]; exact Nat.succ_ne_self _
  have hCI : C ≠ I := by rw [hC]; exact Nat.ne_of_gt (Nat.lt_succ_of_lt (Nat.lt_succ_self _))
  have hCD : C ≠ D := by rw [hC, hD]; exact Nat.succ_ne_self _
  have old1 : ∀ b o, s₁.heap.get? b = some o → H1.get? b = some o := fun b o e => hH1 ▸ Heap.get?_push_of_some _ e
  have old2 : ∀ b o, H1.get? b = some o → h₁.get? b = some o := fun b o e => hsb₁.extBut b o (fun q => by have := Heap.lt_size e; rw [q, hDe, hC, hD] at this; exact Nat.lt_irrefl _ (Nat.lt_of_succ_lt this)) (Heap.get?_push_of_some _ (hH2 ▸ Heap.get?_push_of_some _ e))
  have old : ∀ b o, s₁.heap.get? b = some o → h₁.get? b = some o := fun b o e => old2 b o (old1 b o e)
  have hit₁ : h₁.IsListIter I x 0 := ⟨_, old2 _ _ (hH1 ▸ hI ▸ Heap.get?_push_size _ rfl), rfl, rfl⟩
  have hacc₁ : h₁.get? D = some (lst []) := hsb₁.extBut _ _ (Ne.symm hCD) (Heap.get?_push_of_some _ (hH2 ▸ hDe ▸ Heap.get?_push_size _ rfl))
  have fresh : ∀ a, I ≤ a → h₀.get? a = none := fun a ha => Heap.get?_none_of_le (Nat.le_trans (Nat.le_of_lt (Nat.lt_of_le_of_lt F.above F.ns.lt)) (hI ▸ ha))
  have hI₀ := fresh I (Nat.le_refl _)
  have hD₀ := fresh D (by rw [hD]; exact Nat.le_succ _)
  have hC₀ := fresh C (by rw [hC]; exact Nat.le_add_right _ _)
  have below : ∀ b, b < I → b ≠ I ∧ b ≠ C ∧ b ≠ D := fun b hb => ⟨Nat.ne_of_lt hb, by rw [hC]; exact Nat.ne_of_lt (Nat.lt_of_lt_of_le hb (Nat.le_add_right _ _)), by rw [hD]; exact Nat.ne_of_lt (Nat.lt_succ_of_lt hb)⟩
  have hLlt : L < I := hI ▸ F.ns.lt
  obtain ⟨hLI, hLC, hLD⟩ := below L hLlt
  have ledlt : ∀ p ∈ led, p.1 ≠ I ∧ p.1 ≠ C ∧ p.1 ≠ D := fun p hp => below _ (hI ▸ Heap.lt_size (N p hp).1)
  have hCf : C ∉ fsOf (env₀ :: outer) := hcl C hC₀ (Ne.symm hLC)
  have loop : ∀ s₃ : Shared, s₃ = { s₁ with heap := h₁, toks := s₁.toks + ([] : List (Str × Value)).length } →
      codeAny (model prog w) A (.compLoop (.ListComp elt [⟨.Tuple [.Name xa pa, .Name xb pb] kt tp, iter, [], 0⟩] scope pos) 0 (.ref I) (.ref D) (compEnv scope C env))
        (fun r s' => ∃ m, s'.heap.Ns C m ∧ ∀ h', Heap.SameBut C s'.heap h' →
            match r with | .ok _ => Q (.ref D) { s' with heap := h' } | .error x => wpAny (model prog w) A (PySem.passOn "comprehension.variables-let-go" x (compEnv scope C env)) Q E { s' with heap := h' }) s₃ := by
    rintro s₃ rfl
    refine LCp.codeAny_compLoop_pair
      (fun k s' => ∃ i ys tl h' tk m', s' = { s₁ with heap := h', toks := tk } ∧ i ≤ its.length ∧ k = its.length + 1 - i ∧ ys.length = i ∧ h'.IsListIter I x i ∧ Fr h₀ L h' m ∧ h'.Ns C m' ∧ News h₀ L h' ((D, lst ys) :: (tl ++ led)) ∧
        (∀ p ∈ tl ++ led, p.1 ≠ I ∧ p.1 ≠ C ∧ p.1 ≠ D) ∧ J i ys tl) ?_ (its.length + 1)
      ⟨0, [], [], h₁, _, _, rfl, Nat.zero_le _, rfl, rfl, hit₁, F.keeps old, hns₁, fun p hp => ?_, ledlt, J0⟩
    · intro k s' hst
      refine ex6 hst fun i ys tl h' tk m' hh6 => an10 hh6 fun e1 hi e2 hyl hit' F' hn' N' off' hJ => ?_
      subst e1 e2
      clear hst hh6
      have hxN := (N' (x, accObj dx its.toArray n) (List.mem_cons_of_mem _ (List.mem_append.mpr (.inr hx)))).1
      have hsq : SeqAt h' x its.toArray := ⟨_, _, hxN, rfl⟩
      by_cases hlt : i < its.length
      · obtain ⟨t, u, v, hti, hvi, hmt⟩ := hv.get hlt
        refine next_item hit' hsq (x := .ref t) (by simpa using hti) fun h₂ hit₂ hs₂ => ?_
        have k2 : ∀ b o, b ≠ I → h'.get? b = some o → h₂.get? b = some o := fun b o hb e => hs₂.extBut b o hb e
        have F₂ : Fr h₀ L h₂ m := F'.change hs₂ (Ne.symm hLI) hI₀
        have N₂ : News h₀ L h₂ ((D, lst ys) :: (tl ++ led)) := fun p hp => ⟨k2 _ _ (by
          rcases List.mem_cons.mp hp with rfl | hp
          · exact hDI
          · exact (off' p hp).1) (N' p hp).1, (N' p hp).2⟩
        have ht₂ : h₂.IsTuple t #[u, v] := ⟨_, (N₂ _ (List.mem_cons_of_mem _ (List.mem_append.mpr (.inr hmt)))).1, rfl, _, rfl⟩
        refine wpAny_letOwnedTupleGo_listiter hit₂ ?_
        refine assign_tup_hv (H := .no) hh trivial ht₂ rfl rfl fun h₃ hx₃ => ?_
        have k3 : ∀ b o, h₂.get? b = some o → h₃.get? b = some o := fun b o e => hx₃ b o (Nat.ne_of_lt (Heap.lt_size e)) e
        refine assignInOrder_cons (wpAny_assign_Name (wpAny_storeName_local hxa (hn'.at' fun o e => k3 _ o (k2 _ o hCI e)) (fun h₄ hn₄ hs₄ => ?_) (by simp [compEnv, hkind])))
        refine assignInOrder_cons (wpAny_assign_Name (wpAny_storeName_local hxb hn₄ (fun h₅ hn₅ hs₅ => ?_) (by simp [compEnv, hkind])))
        refine assignInOrder_nil ?_
        have k5 : ∀ b o, b ≠ C → h₂.get? b = some o → h₅.get? b = some o := fun b o hb e => hs₅.extBut b o hb (hs₄.extBut b o hb (k3 b o e))
        have hit₅ : h₅.IsListIter I x (i + 1) := hit₂.at fun o e => k5 _ o (Ne.symm hCI) e
        obtain ⟨oI, hoI, hIc, hId⟩ := hit₅
        obtain ⟨oC, hoC, hNC⟩ := ns_obj hn₅
        have F₅ : Fr h₀ L h₅ m := ((F₂.keeps k3).change hs₄ (Ne.symm hLC) hC₀).change hs₅ (Ne.symm hLC) hC₀
        have N₅ : News h₀ L h₅ ((I, oI) :: (C, oC) :: (D, lst ys) :: (tl ++ led)) := fun p hp => by
          rcases List.mem_cons.mp hp with rfl | hp
          · exact ⟨hoI, Ne.symm hLI, hI₀⟩
          · rcases List.mem_cons.mp hp with rfl | hp
            · exact ⟨hoC, Ne.symm hLC, hC₀⟩
            · refine ⟨k5 _ _ ?_ (N₂ p hp).1, (N₂ p hp).2⟩
              rcases List.mem_cons.mp hp with rfl | hp
              · exact Ne.symm hCD
              · exact (off' p hp).2.1
        refine wpAny_mono (turn i u v ys tl I C D oI oC _ h₅ _ hvi hyl hJ (by simp [hab]) (by simp) hNC F₅ N₅ off') (fun y s₄ h₄ => ?_) (fun ev s₄ h₄ => ?_)
        · refine ex3 h₄ fun h₆ tk₆ tl' q₆ => an5 q₆ fun e₆ F₆ N₆ off₆ hJ₆ => ?_
          subst e₆
          clear h₄ q₆
          have zI := (N₆ (I, oI) List.mem_cons_self).1
          have zC := (N₆ (C, oC) (List.mem_cons_of_mem _ List.mem_cons_self)).1
          have zD := (N₆ (D, lst ys) (List.mem_cons_of_mem _ (List.mem_cons_of_mem _ List.mem_cons_self))).1
          refine append_at (hsz := by show ys.toArray.size ≤ sizeLine; rw [List.size_toArray, hyl, sizeLine_eq]; omega) zD fun h₇ hs₇ hD₇ => ?_
          have offA : ∀ p ∈ tl' ++ led, p.1 ≠ I ∧ p.1 ≠ C ∧ p.1 ≠ D := fun p hp => (List.mem_append.mp hp).elim (off₆ p) (ledlt p)
          refine ⟨its.length + 1 - (i + 1), by omega, i + 1, ys ++ [y], tl', h₇, tk₆, _, rfl, hlt, rfl, by rw [List.length_append, List.length_singleton, hyl], ⟨oI, hs₇.extBut _ _ (Ne.symm hDI) zI, hIc, hId⟩, F₆.change hs₇ (Ne.symm hLD) hD₀,
            (hNC.ns zC).sameBut hs₇ hCD, fun p hp => ?_, offA, hJ₆⟩
          rcases List.mem_cons.mp hp with rfl | hp
          · exact ⟨hD₇.trans (congrArg some (LCg.lst_snoc ys y)), Ne.symm hLD, hD₀⟩
          · exact ⟨hs₇.extBut _ _ (offA p hp).2.2 (N₆ p (List.mem_cons_of_mem _ (List.mem_cons_of_mem _ (List.mem_cons_of_mem _ hp)))).1, (N₆ p (List.mem_cons_of_mem _ (List.mem_cons_of_mem _ (List.mem_cons_of_mem _ hp)))).2⟩
        · obtain ⟨hNA, q₄⟩ := h₄
          refine ex4 q₄ fun e h₆ tk₆ led' q₆ => an6 q₆ fun e1 e2 U₆ R₆ hCm hl' => ?_
          subst e1 e2
          clear q₄ q₆
          show wpAny _ _ (noteFrame (.ref e) _) _ _ _
          refine R₆.note hfr hf0 (env' := compEnv scope C env) hfe fun h₇ R₇ U₇ => ?_
          have hCat : h₇.get? C = some oC := by obtain ⟨B, _, _, _, _, b, c, _⟩ := R₇; exact c.stays _ _ (b _ hCm).1
          refine ⟨_, hNC.ns hCat, fun h₈ hs₈ => ?_⟩
          show wpAny _ _ (PySem.passOn _ (.ref e) _) _ _ _
          have R₈ : RaisedF base (env₀ :: outer) e (rawInt L) msg led h₈ := R₇.drop hCm (by obtain ⟨es, ep, hd, _⟩ := hNC; exact ⟨es, ep, hd⟩) hCf hs₈ fun q hq => ⟨hl' q hq, (ledlt q hq).2.1⟩
          refine R₈.pass (env' := compEnv scope C env) hfe fun h₉ R₉ U₉ => hraise hNA e h₉ _ (fun b o ho hn => ?_) R₉
          have U₈ : h₀.UpToSlots h₈ := fun b o ho hn => by
            obtain ⟨sl, q⟩ := (U₆.trans U₇) b o ho hn
            exact ⟨sl, hs₈.extBut b _ (fun z => by rw [z, hC₀] at ho; cases ho) q⟩
          exact (U₈.trans U₉) b o ho hn
      · obtain rfl : i = its.length := Nat.le_antisymm hi (Nat.not_lt.mp hlt)
        refine next_end_hv (H := .no) hh trivial (by simp [Hv.addrs]) hit' hsq (by simp) fun h₂ hk₂ => ?_
        refine ⟨m', hn'.at' fun o e => hk₂ _ o hCI e, fun h₃ hs₃ => ?_⟩
        have k3 : ∀ b o, b ≠ I → b ≠ C → h'.get? b = some o → h₃.get? b = some o := fun b o h1 h2 e => hs₃.extBut b o h2 (hk₂ b o h1 e)
        refine hdone ys tl D h₃ tk hJ hyl ⟨F'.ns.at' fun o e => k3 _ o hLI hLC e, fun b o e => k3 b o (fun q => by rw [q, hI₀] at e; cases e) (fun q => by rw [q, hC₀] at e; cases e) (F'.keep b o e), F'.above⟩ (fun p hp => ?_) fun p hp => (off' p hp).2.2
        have hne : p.1 ≠ I ∧ p.1 ≠ C := by
          rcases List.mem_cons.mp hp with rfl | hp
          · exact ⟨hDI, Ne.symm hCD⟩
          · exact ⟨(off' p hp).1, (off' p hp).2.1⟩
        exact ⟨k3 _ _ hne.1 hne.2 (N' p hp).1, (N' p hp).2⟩
    · rcases List.mem_cons.mp hp with rfl | hp
      · exact ⟨hacc₁, Ne.symm hLD, hD₀⟩
      · exact ⟨old _ _ (N p hp).1, (N p hp).2⟩
  exact codeAny_compStart_list (loop _ rfl) (wpAny_pyIter_listiter hit₁ (loop _ rfl))
end
end Mine
end
section
open PySem PySem.W PyProof.Rows PySem.Calls
set_option maxRecDepth 100000
set_option maxHeartbeats 1000000
namespace Mine
section
variable {prog : Program} {w : World} {A : Around} {E : Value → Shared → Prop} {s : Shared} {env : Env} {mg mb m : Str → Option Value}
theorem len_tx {v : Value} {a : Tx} {Q : Value → Shared → Prop} (hv : TxV a v) (hl : a.len ≤ 1000) (h : ∀ t tk, Q (.int (a.len : Nat) t) { s with toks := tk }) : wpAny (model prog w) A (call (.builtin "len") [v]) Q E s := by
  cases hv with
  | s x t => exact PyProof.Rows.len_str (by simp only [Tx.len] at hl; omega) (h _ _)
  | b x t => exact KBw.len_K rfl (by rw [KBw.ints_length]; simp only [Tx.len] at hl; omega) (by rw [KBw.ints_length]; exact h _ _)
theorem len_name {y : Str} {p p' pos : Pos} {v : Value} {a : Tx} {Q : Value → Shared → Prop} (hk : env.scope.kind = .function) (hl : env.kindOf "len" = some .globalImplicit) (hy : env.kindOf y = some .local) (hyd : (y == ("__debug__" : Str)) = false) (hg : s.heap.Ns env.globals mg) (hmiss : mg "len" = none) (hb : s.heap.Ns env.builtins mb) (hbv : mb "len" = some (.builtin "len"))
    (hn : s.heap.Ns env.locals m) (hm : m y = some v) (hv : TxV a v) (hlen : a.len ≤ 1000) (h : ∀ t tk, Q (.int (a.len : Nat) t) { s with toks := tk }) :
    wpAny (model prog w) A (eval (.Call (.Name "len" p) [.Name y p'] [] pos) env) Q E s := by
  refine wpAny_Call_NameR (Calls.Name_function_global hk hl (Calls.loadGlobal_builtin hg hmiss hb hbv ?_))
  rw [show backTo pos (starEach [.Name y p'] env) = [(false, eval (.Name y p') env)] from rfl]
  refine callWith_builtin1 ?_
  refine wpAny_Name (wpAny_loadName_local hk hy hn hm ?_) hyd
  exact len_tx hv hlen h
theorem len_elt {y z : Str} {p1 p2 p3 p4 p5 p6 p7 : Pos} {u v : Value} {a b : Tx} {Q : Value → Shared → Prop} (hk : env.scope.kind = .function) (hl : env.kindOf "len" = some .globalImplicit) (hy : env.kindOf y = some .local) (hyd : (y == ("__debug__" : Str)) = false) (hz : env.kindOf z = some .local) (hzd : (z == ("__debug__" : Str)) = false)
    (hg : s.heap.Ns env.globals mg) (hmiss : mg "len" = none) (hb : s.heap.Ns env.builtins mb) (hbv : mb "len" = some (.builtin "len"))
    (hn : s.heap.Ns env.locals m) (hm : m y = some u) (hm' : m z = some v) (hu : TxV a u) (hv : TxV b v) (hla : a.len ≤ 1000) (hlb : b.len ≤ 1000) (h : ∀ t tk, Q (.int ((a.len : Int) + (b.len : Int)) t) { s with toks := tk }) :
    wpAny (model prog w) A (eval (.BinOp (.Call (.Name "len" p1) [.Name y p2] [] p3) .Add (.Call (.Name "len" p4) [.Name z p5] [] p6) p7) env) Q E s := by
  refine wpAny_BinOp (len_name hk hl hy hyd hg hmiss hb hbv hn hm hu hla fun t tk => ?_)
  refine len_name hk hl hz hzd hg hmiss hb hbv hn hm' hv hlb fun t' tk' => ?_
  exact wpAny_add_int (h _ _)
end
end Mine
end
section
open PySem PySem.W PyProof.Rows PySem.Calls
set_option maxRecDepth 100000
set_option maxHeartbeats 1000000
namespace Mine
section
variable {prog : Program} {w : World} {A : Around} {E : Value → Shared → Prop} {s : Shared} {env : Env} {mg mb m : Str → Option Value}
theorem str_elt {em y z : Str} {p1 p2 p3 p4 p5 p6 : Pos} {k : Nat} {u v : Str} {tu tv t0 : Tok} {Q : Value → Shared → Prop} (hk : env.scope.kind = .function) (he : env.kindOf em = some .globalImplicit) (hed : (em == ("__debug__" : Str)) = false) (hy : env.kindOf y = some .local) (hyd : (y == ("__debug__" : Str)) = false) (hz : env.kindOf z = some .local) (hzd : (z == ("__debug__" : Str)) = false)
    (hg : s.heap.Ns env.globals mg) (hem : mg em = some (.str (Str.ofString "") t0)) (hn : s.heap.Ns env.locals m) (hm : m y = some (.str u tu)) (hm' : m z = some (.str v tv)) (hla : u.length ≤ 1000) (hlb : v.length ≤ 1000) (hline : (p2.endLine == p6.line) = true)
    (h : ∀ h' t tk, (∀ b o, s.heap.get? b = some o → h'.get? b = some o) → Q (.str (Txt.join (Str.ofString "") [u, v]) t) { s with heap := h', toks := tk }) :
    wpAny (model prog w) A (eval (.Call (.Attribute (.Name em p1) "join" p2) [.Tuple [.Name y p3, .Name z p4] k p5] [] p6) env) Q E s := by
  refine wpAny_Call_method_lateS rfl rfl hline (Calls.Name_function_global hk he (Calls.loadGlobal_global hg hem ?_) hed)
  refine ⟨"str", "str.join", F.plainAttrs_str, F.slot_str_join, F.type_str_join, typeIs_str _ _ _, (fun a q => nomatch q), ?_⟩
  refine callWith_method1 (Calls.spliced_cons ?_)
  show wpAny _ _ (eval (.Tuple [.Name y p3, .Name z p4] k p5) env) (fun v s₁ => wpAny _ _ (spliced []) _ _ _) _ _
  refine wpAny_Tuple_spliced ?_
  show wpAny _ _ (spliced [(false, eval (.Name y p3) env), (false, eval (.Name z p4) env)]) _ _ _
  refine Calls.spliced_cons ?_
  refine wpAny_Name (wpAny_loadName_local hk hy hn hm ?_) hyd
  refine Calls.spliced_cons (wpAny_Name (wpAny_loadName_local hk hz hn hm' (Calls.spliced_nil ⟨by simp [sizeLine_eq], ?_⟩)) hzd)
  refine Calls.spliced_nil ?_
  refine join_tuple (ys := [u, v]) (items := [.str u tu, .str v tv].toArray) ⟨_, Heap.get?_push_size _ rfl, rfl, _, rfl⟩ (.cons _ _ (.cons _ _ .nil)) ?_ fun t' k' => h _ _ _ fun b o e => Heap.get?_push_of_some _ e
  simp only [List.map_cons, List.map_nil, List.sum_cons, List.sum_nil, List.length_cons, List.length_nil]
  have : (Str.ofString "").length = 0 := by decide +kernel
  omega
end
end Mine
namespace Mine
open PySem PySem.W PyProof.Rows PySem.Calls
/-- pairs of texts -/
def AllS (ps : List (Tx × Tx)) : Prop := ∀ q ∈ ps, ∃ a b, q = (.s a, .s b)
def Tx.str : Tx → Str
  | .s x => x
  | .b _ => Str.ofString ""
def strAt (ps : List (Tx × Tx)) (j : Nat) : Str := match ps[j]? with | some p => Txt.join (Str.ofString "") [p.1.str, p.2.str] | none => Str.ofString ""
def strOf (ps : List (Tx × Tx)) : Str := Txt.join (Str.ofString "") (ps.map fun p => Txt.join (Str.ofString "") [p.1.str, p.2.str])
theorem strAt_all (ps : List (Tx × Tx)) : (List.range ps.length).map (strAt ps) = ps.map fun p => Txt.join (Str.ofString "") [p.1.str, p.2.str] := by
  apply List.ext_getElem?
  intro j
  simp only [List.getElem?_map]
  by_cases hj : j < ps.length
  · simp [strAt, hj]
  · rw [List.getElem?_eq_none (by simpa using hj), List.getElem?_eq_none (by simpa using hj)]; rfl
end Mine
namespace Mine
open PySem PySem.W PyProof.Rows PySem.Calls
theorem emp_len : (Str.ofString "").length = 0 := by decide +kernel
theorem two_len (a b : Str) : (Txt.join (Str.ofString "") [a, b]).length = a.length + b.length := by
  unfold Txt.join
  rw [size_glued, emp_len]
  simp
theorem str_ok_len (ps : List (Tx × Tx)) (hs : Short ps) (hz : ps.length ≤ 1000) (ha : AllS ps) : JoinOk (Str.ofString "") ((List.range ps.length).map (strAt ps)) = true := by
  refine joinOk_of ?_
  rw [strAt_all, emp_len, Nat.mul_zero, Nat.add_zero]
  have key : ∀ l : List (Tx × Tx), (∀ q ∈ l, q.1.len ≤ 1000 ∧ q.2.len ≤ 1000) → (∀ q ∈ l, ∃ a b, q = (Tx.s a, Tx.s b)) → ((l.map fun p => Txt.join (Str.ofString "") [p.1.str, p.2.str]).map (·.length)).sum ≤ l.length * 2000 := by
    intro l
    induction l with
    | nil => intro _ _; simp
    | cons q l ih =>
      intro h1 h2
      have := ih (fun q hq => h1 q (.tail _ hq)) (fun q hq => h2 q (.tail _ hq))
      obtain ⟨a, b, rfl⟩ := h2 _ (.head _)
      have hq := h1 _ (.head _)
      simp only [Tx.len] at hq
      simp only [List.map_cons, List.sum_cons, List.length_cons]
      rw [two_len]
      have e1 : (Tx.s a).str = a := rfl
      have e2 : (Tx.s b).str = b := rfl
      rw [e1, e2]
      omega
  have := key ps hs ha
  omega
end Mine
end
section
open PySem PySem.W PyProof.Rows PySem.Calls
set_option maxRecDepth 100000
set_option maxHeartbeats 1000000
namespace Mine
open PyProof.Rows.LCg (NsObj ns_obj lst)
abbrev msg0 : Str := Str.ofString "string argument should contain only ASCII characters"
def Ascii (x : Str) : Prop := ∀ c ∈ x.cps, c < 128
def encB (x : Str) : Array UInt8 := x.cps.map (·.toUInt8)
def encT (a : Tx) : Tx := .b (encB a.str)
def encP (ps : List (Tx × Tx)) : List (Tx × Tx) := ps.map fun q => (encT q.1, encT q.2)
def AsciiP (ps : List (Tx × Tx)) : Prop := ∀ q ∈ ps, Ascii q.1.str ∧ Ascii q.2.str
section
variable {prog : Program} {w : World} {A : Around} {E : Value → Shared → Prop} {s : Shared} {K : Frag} {env : Env} {mg m : Str → Option Value}
theorem dec_elt {fn y z : Str} {p1 p2 p3 p4 p5 p6 p7 : Pos} {k : Nat} {u v : Value} {f : Addr} {Q : Value → Shared → Prop} (hk : env.scope.kind = .function) (hf : env.kindOf fn = some .globalImplicit) (hfd : (fn == ("__debug__" : Str)) = false) (hy : env.kindOf y = some .local) (hyd : (y == ("__debug__" : Str)) = false) (hz : env.kindOf z = some .local) (hzd : (z == ("__debug__" : Str)) = false)
    (X : K.In s.heap) (hkf : keepIn K (.ref f) = true) (hg : s.heap.Ns env.globals mg) (hfv : mg fn = some (.ref f)) (hn : s.heap.Ns env.locals m) (hm : m y = some u) (hm' : m z = some v)
    (h : wpAny (model prog w) A (call (.ref f) [u]) (fun r1 s₁ => K.In s₁.heap ∧ s₁.heap.Ns env.globals mg ∧ s₁.heap.Ns env.locals m ∧
      wpAny (model prog w) A (call (.ref f) [v]) (fun r2 s₂ => Q (.ref s₂.heap.objs.size) { s₂ with heap := s₂.heap.push (tupObj [r1, r2]) }) E s₁) E s) :
    wpAny (model prog w) A (eval (.Tuple [.Call (.Name fn p1) [.Name y p2] [] p3, .Call (.Name fn p4) [.Name z p5] [] p6] k p7) env) Q E s := by
  refine wpAny_Tuple ?_
  show wpAny _ _ (spliced [(false, eval (.Call (.Name fn p1) [.Name y p2] [] p3) env), (false, eval (.Call (.Name fn p4) [.Name z p5] [] p6) env)]) _ _ _
  refine Calls.spliced_cons (wpAny_Call_NameR (Calls.Name_function_global hk hf (Calls.loadGlobal_global hg hfv ?_) hfd))
  refine callWith_K X hkf ?_
  refine Calls.spliced_cons (wpAny_Name (wpAny_loadName_local hk hy hn hm (Calls.spliced_nil ⟨X, ?_⟩)) hyd)
  refine wpAny_mono h (fun r1 s₁ h₁ => ?_) fun _ _ e => e
  obtain ⟨X₁, hg₁, hn₁, h₁⟩ := h₁
  refine Calls.spliced_cons (wpAny_Call_NameR (Calls.Name_function_global hk hf (Calls.loadGlobal_global hg₁ hfv ?_) hfd))
  refine callWith_K X₁ hkf ?_
  refine Calls.spliced_cons (wpAny_Name (wpAny_loadName_local hk hz hn₁ hm' (Calls.spliced_nil ⟨X₁, ?_⟩)) hzd)
  exact wpAny_mono h₁ (fun r2 s₂ h₂ => Calls.spliced_nil ⟨by simp [sizeLine_eq], h₂⟩) fun _ _ e => e
end
theorem encP_snoc {ps : List (Tx × Tx)} {i : Nat} {q : Tx × Tx} (h : ps[i]? = some q) : encP (ps.take (i + 1)) = encP (ps.take i) ++ [(encT q.1, encT q.2)] := by
  unfold encP; rw [List.take_add_one, h]; simp
theorem asciiP_snoc {ps : List (Tx × Tx)} {i : Nat} {q : Tx × Tx} (h : ps[i]? = some q) (h1 : AsciiP (ps.take i)) (h2 : Ascii q.1.str) (h3 : Ascii q.2.str) : AsciiP (ps.take (i + 1)) := by
  intro r hr
  rw [List.take_add_one, h] at hr
  rcases List.mem_append.mp hr with hr | hr
  · exact h1 r hr
  · simp at hr; subst hr; exact ⟨h2, h3⟩
section
variable {prog : Program} {w : World} {A : Around} {E : Value → Shared → Prop} {s : Shared} {K : Frag} {h₀ base : Heap} {L : Addr} {m : Str → Option Value} {led : List (Addr × Obj)} {env env₀ : Env} {outer : List Env} {mg : Str → Option Value}
variable {scope : Scope} {iter : Expr} {xa xb fn : Str} {pa pb tp pos p1 p2 p3 p4 p5 p6 p7 : Pos} {kt kz : Nat} {x dx : Addr} {its : List Value} {n : Nat} {ps : List (Tx × Tx)} {Q : Value → Shared → Prop}
/-- the pairs handed over -/
theorem comp_dec 
    (hh : A.handled = none) (F : Fr h₀ L s.heap m) (X : K.In h₀) (N : News h₀ L s.heap led) (hov : listOver K 101 = true) (hf : findIn K (.ref 101) "__iter__" = some (some (.builtin "list.__iter__")))
    (hx : (x, accObj dx its.toArray n) ∈ led) (hP : Pairs led its ps) (hS : AllS ps) (hsh : Short ps) (hz : ps.length ≤ 1000)
    (hg : h₀.Ns env.globals mg) (hfv : mg fn = some (.ref 113)) (hkf : keepIn K (.ref 113) = true)
    (hfree : ∀ y ∈ scope.names, y.2 ≠ .free) (hcell : ∀ y ∈ scope.names, y.2 ≠ .cell) (hkind : scope.kind = .function) (hnames : ∀ y ∈ scope.names, y.2 = .local → scope.names.lookup y.1 = some .local)
    (hxa : scope.names.lookup xa = some .local) (hxb : scope.names.lookup xb = some .local) (hab : xa ≠ xb) (hxf : scope.names.lookup fn = some .globalImplicit) (hda : (xa == ("__debug__" : Str)) = false) (hdb : (xb == ("__debug__" : Str)) = false) (hdf : (fn == ("__debug__" : Str)) = false)
    (hfr : A.frames = some (env₀ :: outer)) (hf0 : env₀.frame = some L) (hfe : env.frame = some L) (hcl : ∀ C, h₀.get? C = none → C ≠ L → C ∉ fsOf (env₀ :: outer))
    (hiter : wpAny (model prog w) A (eval iter env) (fun v s₁ => v = .ref x ∧ s₁ = s) E s)
    (hdec : ∀ (y : Str) (t : Tok) (nw : List (Addr × Obj)) (h : Heap) (tk : Nat) (Q' E' : Value → Shared → Prop), Fr h₀ L h m → News h₀ L h nw → y.length ≤ 1000 →
      (Ascii y → ∀ t' h' tk', Fr h₀ L h' m → News h₀ L h' nw → Q' (.bytes (encB y) t') { s with heap := h', toks := tk' }) →
      (¬ Ascii y → ∀ e hm h' tk', Fr h₀ L hm m → hm.UpToSlots h' → RaisedX base (env₀ :: outer) e msg0 nw h' → E' (.ref e) { s with heap := h', toks := tk' }) →
      wpAny (model prog w) A (call (.ref 113) [.str y t]) Q' E' { s with heap := h, toks := tk })
    (hdone : AsciiP ps → ∀ ys tl D h' tk', Pairs (tl ++ led) ys (encP ps) → ys.length = ps.length → Fr h₀ L h' m → News h₀ L h' ((D, lst ys) :: (tl ++ led)) → (∀ p ∈ tl ++ led, p.1 ≠ D) → (∀ q ∈ tl, ∀ r ∈ led, r.1 ≠ q.1) → Q (.ref D) { s with heap := h', toks := tk' })
    (hraise : ¬ AsciiP ps → ∀ e h' tk', h₀.UpToSlots h' → RaisedF base (env₀ :: outer) e (rawInt L) msg0 led h' → E (.ref e) { s with heap := h', toks := tk' })
    (hs : ∀ x, foldedSetIterable iter env x = pure x := by intro _; rfl) :
    wpAny (model prog w) A (eval (.ListComp (.Tuple [.Call (.Name fn p1) [.Name xa p2] [] p3, .Call (.Name fn p4) [.Name xb p5] [] p6] kz p7) [⟨.Tuple [.Name xa pa, .Name xb pb] kt tp, iter, [], 0⟩] scope pos) env) Q E s := by
  obtain ⟨vals, hvals, hvl, hvp⟩ := pairs_vals hP
  have hil : its.length = ps.length := hvals.len.trans hvl
  refine comp_acc (J := fun i ys tl => Pairs (tl ++ led) ys (encP (ps.take i)) ∧ AsciiP (ps.take i) ∧ ∀ q ∈ tl, ∀ r ∈ led, r.1 ≠ q.1) (NA := ¬ AsciiP ps) hh F X N hov hf hx hvals (by omega) hfree hcell hkind hnames hxa hxb hab hfr hf0 hfe hcl hiter ⟨.nil, (fun q hq => by simp at hq), fun q hq => by simp at hq⟩ ?_ ?_ hraise hs
  · intro i u v ys tl I C D oI oC m₂ h tk hvi hyl hJ hm1 hm2 hNC F₁ N₁ off₁
    obtain ⟨hJ1, hJ2, hJ3⟩ := hJ
    obtain ⟨a, b, hpi, ta, tb⟩ := hvp i u v hvi
    obtain ⟨a', b', hq⟩ := hS _ (List.mem_of_getElem? hpi)
    cases hq
    have hq9 := hsh _ (List.mem_of_getElem? hpi)
    cases ta with | s _ tu => cases tb with | s _ tv =>
    have nab : ∀ {y : Str}, (y = a' ∨ y = b') → ¬ Ascii y → ¬ AsciiP ps := fun hy hn ha => by
      have := ha _ (List.mem_of_getElem? hpi)
      rcases hy with rfl | rfl
      · exact hn this.1
      · exact hn this.2
    have nsC : ∀ {h : Heap} {nw : List (Addr × Obj)}, News h₀ L h ((I, oI) :: (C, oC) :: nw) → h.Ns C m₂ := fun N' => hNC.ns (N' _ (List.mem_cons_of_mem _ (List.mem_cons_self))).1
    have err : ∀ {y : Str}, (y = a' ∨ y = b') → ¬ Ascii y → ∀ e hm h' tk', Fr h₀ L hm m → hm.UpToSlots h' → RaisedX base (env₀ :: outer) e msg0 ((I, oI) :: (C, oC) :: (D, lst ys) :: (tl ++ led)) h' →
        (fun v s₂ => ¬ AsciiP ps ∧ ∃ e h' tk' led', v = .ref e ∧ s₂ = { s with heap := h', toks := tk' } ∧ h₀.UpToSlots h' ∧ RaisedF base (env₀ :: outer) e .none msg0 led' h' ∧ (C, oC) ∈ led' ∧ ∀ q ∈ led, q ∈ led') (Value.ref e) ({ s with heap := h', toks := tk' } : Shared) := fun hy hn e hm h' tk' Fm U R =>
      ⟨nab hy hn, e, h', tk', _, rfl, rfl, (Heap.UpToSlots.of_keeps Fm.keep).trans U, R.f, List.mem_cons_of_mem _ (List.mem_cons_self), fun q hq => List.mem_cons_of_mem _ (List.mem_cons_of_mem _ (List.mem_cons_of_mem _ (List.mem_append.mpr (.inr hq))))⟩
    refine dec_elt (f := 113) (K := K) (mg := mg) (m := m₂) hkind hxf hdf hxa hda hxb hdb (X.keeps F₁.keep) hkf (hg.keeps F₁.keep) hfv (nsC N₁) hm1 hm2 ?_
    refine hdec a' tu _ h tk _ _ F₁ N₁ hq9.1 (fun ha t' h' tk' F₂ N₂ => ⟨X.keeps F₂.keep, hg.keeps F₂.keep, nsC N₂, ?_⟩) (err (.inl rfl))
    refine hdec b' tv _ h' tk' _ _ F₂ N₂ hq9.2 (fun hb t'' h'' tk'' F₃ N₃ => ?_) (err (.inr rfl))
    have N₄ := News.push F₃ N₃ (tupObj [.bytes (encB a') t', .bytes (encB b') t''])
    have fresh : ∀ q ∈ (I, oI) :: (C, oC) :: (D, lst ys) :: (tl ++ led), h''.objs.size ≠ q.1 := fun q hq => Nat.ne_of_gt (Heap.lt_size (N₃ q hq).1)
    refine ⟨_, tk'', (h''.objs.size, tupObj [.bytes (encB a') t', .bytes (encB b') t'']) :: tl, rfl, F₃.push _, fun q hq => ?_, fun q hq => ?_, ?_, asciiP_snoc hpi hJ2 ha hb, fun q hq r hr => ?_⟩
    · apply N₄
      simp only [List.mem_cons, List.mem_append, List.cons_append] at hq ⊢
      rcases hq with h1 | h1 | h1 | h1 | h1 | h1 <;> simp [h1]
    · rcases List.mem_cons.mp hq with rfl | hq
      · exact ⟨fresh (I, oI) (by simp), fresh (C, oC) (by simp), fresh (D, lst ys) (by simp)⟩
      · exact off₁ q (List.mem_append.mpr (.inl hq))
    · rw [encP_snoc hpi]
      refine Pairs.snoc (hJ1.mono fun q hq => ?_) (List.mem_append.mpr (.inl (List.mem_cons_self))) (.b _ _) (.b _ _)
      exact List.mem_cons_of_mem _ hq
    · rcases List.mem_cons.mp hq with rfl | hq
      · exact Ne.symm (fresh r (by simp [hr]))
      · exact hJ3 q hq r hr
  · intro ys tl D h' tk' hJ hyl F₁ N₁ off
    rw [hil, List.take_length] at hJ
    exact hdone hJ.2.1 ys tl D h' tk' hJ.1 (hyl.trans hil) F₁ N₁ off hJ.2.2
end
end Mine
end
section
open PySem PySem.W PyProof.Rows
set_option maxRecDepth 100000
set_option maxHeartbeats 800000
namespace Mine
theorem cl_of {A : Around} {base g : Heap} {outer : List Env} {env₀ : Env} {L : Addr} (B : Below A base outer g) (hf : env₀.frame = some L) : ∀ C, g.get? C = none → C ≠ L → C ∉ fsOf (env₀ :: outer) := by
  intro C hC hL hm
  simp only [fsOf, List.filterMap_cons, hf] at hm
  rcases List.mem_cons.mp hm with z | hm
  · exact hL z
  · obtain ⟨o, ho, _⟩ := (B.frames.mem hm).2
    rw [hC] at ho; cases ho
theorem encB_size (x : Str) : (encB x).size = x.length := by unfold encB; rw [Array.size_map]; rfl
theorem acc_nt {dx : Addr} {its : Array Value} {n : Nat} : (accObj dx its n).cls ≠ .type "tuple" := fun h => nomatch h
theorem dict_nt {w : World} {tk t : Tok} : (sizeDict w tk t).cls ≠ .type "tuple" := fun h => absurd (Value.type.inj h) (by decide)
theorem list_na {vs its : Array Value} {k n : Nat} {dx : Addr} : (listOf vs k).cls ≠ (accObj dx its n).cls := fun h => nomatch h
theorem Pairs.filter {led led' : List (Addr × Obj)} {its : List Value} {ps : List (Tx × Tx)} (h : Pairs led its ps) (hs : ∀ q ∈ led, q.2.cls = .type "tuple" → q ∈ led') : Pairs led' its ps := by
  induction h with
  | nil => exact .nil
  | cons hm h1 h2 _ ih => exact .cons (hs _ hm rfl) h1 h2 ih
theorem hand_pre {h₀ h : Heap} {L : Addr} {a b d : Addr × Obj} {tl news : List (Addr × Obj)} {ys : List Value} {ps : List (Tx × Tx)} (N : News h₀ L h (d :: (tl ++ a :: b :: news))) (off : ∀ p ∈ tl ++ a :: b :: news, p.1 ≠ d.1) (offl : ∀ q ∈ tl, ∀ r ∈ a :: b :: news, r.1 ≠ q.1) (hne : ∀ p ∈ news, p.1 ≠ a.1) (hne' : ∀ p ∈ news, p.1 ≠ b.1)
    (hP : Pairs (tl ++ a :: b :: news) ys ps) (ca : a.2.cls ≠ .type "tuple") (cb : b.2.cls ≠ .type "tuple") :
    News h₀ L h (a :: b :: (d :: (tl ++ news))) ∧ (∀ p ∈ d :: (tl ++ news), p.1 ≠ a.1) ∧ (∀ p ∈ d :: (tl ++ news), p.1 ≠ b.1) ∧ @Ne Nat a.1 d.1 ∧ Pairs (tl ++ news) ys ps := by
  have ha := off a (by simp)
  have hb := off b (by simp)
  refine ⟨fun q hq => N q ?_, fun p hp => ?_, fun p hp => ?_, ha, hP.filter fun q hq hc => ?_⟩
  · simp only [List.mem_cons, List.mem_append] at hq ⊢
    rcases hq with h | h | h | h | h <;> simp [h]
  · rcases List.mem_cons.mp hp with rfl | hp
    · exact Ne.symm ha
    · rcases List.mem_append.mp hp with hp | hp
      · exact Ne.symm (offl p hp a (by simp))
      · exact hne p hp
  · rcases List.mem_cons.mp hp with rfl | hp
    · exact Ne.symm hb
    · rcases List.mem_append.mp hp with hp | hp
      · exact Ne.symm (offl p hp b (by simp))
      · exact hne' p hp
  · simp only [List.mem_cons, List.mem_append] at hq ⊢
    rcases hq with h | h | h | h
    · exact .inl h
    · rw [h] at hc; exact absurd hc ca
    · rw [h] at hc; exact absurd hc cb
    · exact .inr h
theorem ne_of_cls {h₀ h : Heap} {L : Addr} {led : List (Addr × Obj)} {p q : Addr × Obj} (N : News h₀ L h led) (h1 : p ∈ led) (h2 : q ∈ led) (hc : p.2.cls ≠ q.2.cls) : p.1 ≠ q.1 := by
  intro e
  have e1 := (N p h1).1
  have e2 := (N q h2).1
  rw [e, e2] at e1
  exact hc (congrArg Obj.cls (Option.some.inj e1)).symm
theorem hand_pre2 {h₀ h : Heap} {L : Addr} {a b d l D : Addr × Obj} {tl news : List (Addr × Obj)} (N : News h₀ L h (l :: D :: a :: b :: (d :: (tl ++ news)))) (h1 : l.2.cls ≠ a.2.cls) (h2 : D.2.cls ≠ a.2.cls) (e : ∀ p ∈ d :: (tl ++ news), p.1 ≠ a.1) (hab : @Ne Nat a.1 b.1) :
    News h₀ L h (a :: (l :: D :: b :: (d :: (tl ++ news)))) ∧ ∀ p ∈ l :: D :: b :: (d :: (tl ++ news)), p.1 ≠ a.1 := by
  refine ⟨fun q hq => N q ?_, fun p hp => ?_⟩
  · simp only [List.mem_cons, List.mem_append] at hq ⊢
    rcases hq with h | h | h | h | h | h | h <;> simp [h]
  · rcases List.mem_cons.mp hp with rfl | hp
    · exact ne_of_cls N (by simp) (by simp) h1
    · rcases List.mem_cons.mp hp with rfl | hp
      · exact ne_of_cls N (by simp) (by simp) h2
      · rcases List.mem_cons.mp hp with rfl | hp
        · exact Ne.symm hab
        · exact e p hp
theorem hand_sub {l D b d : Addr × Obj} {tl news : List (Addr × Obj)} : ∀ q ∈ tl ++ news, q ∈ l :: D :: b :: (d :: (tl ++ news)) := fun q hq => .tail _ (.tail _ (.tail _ (.tail _ hq)))
theorem hand_len {ps : List (Tx × Tx)} {rest : Str} (hz : ps.length ≤ 100) (hzr : rest.length ≤ 500) : (encP ps).length + (splitB (rest.cps.map (·.toUInt8))).length ≤ 1000 := by
  have := splitB_len (rest.cps.map (·.toUInt8))
  rw [Array.size_map] at this
  have e : rest.cps.size = rest.length := rfl
  unfold encP
  rw [List.length_map]; omega
theorem hand_post {h₀ h : Heap} {L : Addr} {x : Addr} {ax : Obj} {b d l D : Addr × Obj} {tl tl' news : List (Addr × Obj)} {its : List Value} {ps : List (Tx × Tx)} (N : News h₀ L h ((x, ax) :: (tl' ++ (l :: D :: b :: (d :: (tl ++ news)))))) (hP : Pairs (tl' ++ (l :: D :: b :: (d :: (tl ++ news)))) its ps) (hty : ∀ p ∈ tl', p.1 ≠ x) (e : ∀ p ∈ l :: D :: b :: (d :: (tl ++ news)), p.1 ≠ x) (cb : b.2.cls ≠ .type "tuple") :
    Pairs ((tl' ++ l :: D :: d :: tl) ++ news) its ps ∧ News h₀ L h ((x, ax) :: b :: ((tl' ++ l :: D :: d :: tl) ++ news)) ∧ ∀ p ∈ tl' ++ l :: D :: d :: tl, p.1 ≠ x := by
  refine ⟨hP.filter fun q hq hc => ?_, fun q hq => N q ?_, fun p hp => ?_⟩
  · simp only [List.mem_cons, List.mem_append] at hq ⊢
    rcases hq with h | h | h | h | h | h | h
    · simp [h]
    · simp [h]
    · simp [h]
    · rw [h] at hc; exact absurd hc cb
    · simp [h]
    · simp [h]
    · simp [h]
  · simp only [List.mem_cons, List.mem_append] at hq ⊢
    rcases hq with h | h | (h | h | h | h | h) | h <;> simp [h]
  · simp only [List.mem_cons, List.mem_append] at hp
    rcases hp with h | h | h | h | h
    · exact hty p h
    · exact e p (by simp [h])
    · exact e p (by simp [h])
    · exact e p (by simp [h])
    · exact e p (by simp [h])
theorem not_ascii {x : Str} (h : ∃ c ∈ x.cps, 128 ≤ c) : ¬ Ascii x := fun ha => let ⟨c, hc, hn⟩ := h; Nat.lt_irrefl _ (Nat.lt_of_lt_of_le (ha c hc) hn)
local macro_rules | `(tactic| k_mem) => `(tactic| first | assumption | exact List.mem_append.mpr (.inr (by k_mem)) | exact List.mem_append.mpr (.inl (by k_mem)))


section
local macro_rules | `(tactic| k_mem) => `(tactic| first | assumption | (with_reducible exact List.mem_cons_self) | ((with_reducible refine List.mem_cons_of_mem _ ?_); k_mem) | ((with_reducible show _ ∈ (_ ++ _ : List _)); first | (refine List.mem_append.mpr (.inr ?_); k_mem) | (refine List.mem_append.mpr (.inl ?_); k_mem)))
local macro_rules | `(tactic| walk_at "MY dec") => `(tactic| (intro y8 t8 nw8 h8 tk8 Q8 E8 F8 N8 hy8 hA8 hB8; k_dflt (refine' dec_ok _ _ _ _ _ _ _ _ _ _ _ _ _ _ _ _ _ _ _ _ _ _ _ _ ?k1 ?k2 ?k3 ?k4 ?k5 ?kK ?kT ?kd ?ku ?kz ?kr ?kx; (case k2 => exact F8); (case k4 => exact N8); (case k1 => k_asm); (case k3 => k_asm); (case k5 => k_asm); (case kK => first | exact rfl | assumption); (case kT => assumption); (case kd => ktr_room); (case ku => ktr_units); (case kz => omega); (case kr => exact fun ha t h tk F N => hA8 ha t h tk F N); (case kx => exact fun hb e hm h tk F U R => hB8 (fun ha => let ⟨c, hc, hn⟩ := hb; Nat.lt_irrefl _ (Nat.lt_of_lt_of_le (ha c hc) hn)) e hm h tk F U R))))

theorem hand_ok : ∀ (x dx : Addr) (its : List Value) (n : Nat) (tk0 t0 : Tok) (ps : List (Tx × Tx)) (rest : Str) (tr : Tok), ∀ (w : World) (mean : ExcName → Option Value) (mg mb : Str → Option Value)
   (dp un : Nat) (gd : Option (List Code)) (cn : Str) (cs : Scope) (a : Addr) (ccd : Value) (cl : List (Str × Addr)) (outer : List Env) (A₀ : Around) (base h₀ : Heap) (L : Addr) (m : Str → Option Value) (news : List (Addr × Obj)) (s : Shared)
    (Q E : Value → Shared → Prop)
   (B : Below A₀ base outer h₀) (F : Fr h₀ L s.heap m) (X : (hd.heap_39 w.params).In h₀) (N : News h₀ L s.heap news) (T : Top p0 loose0 mean mg mb h₀) (hk : cs.kind = .function) (TB : Top p0 loose0 mean mg mb base) (hd : dp + 200 < recursionLimit) (hu : un + 2000 < cLine) (hx : News h₀ L s.heap ((x, accObj dx its.toArray n) :: (dx, sizeDict w tk0 t0) :: news)) (hne : ∀ p ∈ news, p.1 ≠ x) (hne' : ∀ p ∈ news, p.1 ≠ dx) (hxd : @Ne Nat x dx)
   (hP : Pairs news its ps) (hS : AllS ps) (hsh : Short ps) (hz : ps.length ≤ 100) (hzr : rest.length ≤ 500)
   (hret : Ascii rest → AsciiP ps → ∀ (its' : List Value) (n' : Nat) (t' : Tok) (tl : List (Addr × Obj)) (h' : Heap) (tk' : Nat), Pairs (tl ++ news) its' (walkAll (.b #[47]) (.b #[46, 46]) [.b #[], .b #[46]] (encP ps) ((splitB (encB rest)).map .b)) → Fr h₀ L h' m → News h₀ L h' ((x, accObj dx its'.toArray n') :: (dx, sizeDict w tk0 t') :: (tl ++ news)) → (∀ p ∈ tl, p.1 ≠ x) → Q .none { s with heap := h', toks := tk' })
   (hraise : ¬ (Ascii rest ∧ AsciiP ps) → ∀ (e : Addr) (hm h' : Heap) (tk' : Nat), Fr h₀ L hm m → hm.UpToSlots h' → RaisedX base (envX cn cs L a ccd cl :: outer) e msg0 ((x, accObj dx its.toArray n) :: (dx, sizeDict w tk0 t0) :: news) h' → E (.ref e) { s with heap := h', toks := tk' }),
   wpAny (model PySem.Challenge.rw_op0008_01.row.prog w) (ktrTop dp un gd cn cs L a ccd cl outer) (call (.ref 146) [.ref x, .str rest tr]) Q E s := by
  w_top off
  k_fill
  intro x dx its n tk0 t0 ps rest tr w mean mg mb dp un gd cn cs a ccd cl outer A₀ base h₀ L m news s Q E B F X N T hk TB hd hu hx hne hne' hxd hP hS hsh hz hzr hret hraise
  clear N
  have hil := hP.len
  refine wpAny_call ?_
  k_dflt ((refine' code_def ?k1 ?k2 ?k3 ?k4 ?k5 ?kA ?kF ?kK ?k6 ?k7 ?k8 ?k9 ?kB ?_ ?c2 ?c3 ?c4 ?c5; (case kA => exact rfl); (case kF => exact rfl); (case kK => first | exact rfl | assumption); (case k1 => k_asm); (case k2 => k_asm); (case k3 => k_asm); (case k4 => k_asm); (case k5 => k_asm); (case k6 => k_is); (case k7 => k_is); (case k8 => ktr_room); (case k9 => first | exact BindsTo.of_eq rfl | exact binds_K (by k_in) rfl (by k_is) rfl rfl rfl); (case c5 => decide); (case kB => exact locs rfl); (case c2 => exact rfl); (case c3 => exact rfl); (case c4 => exact rfl); k_whole; intro g' L' h' FG' F' N' B' X' T'; (try dsimp only); (try k_lift B'); (try k_fold)))
  repeat' (first
    | (first
      | ((with_reducible show wpAny _ _ (call (Value.ref _) _) _ _ _); k_here; k_dflt (show wpAny _ _ (call (Value.ref 141) [_, _, _, Value.bytes _ _]) _ _ _); (rename News _ _ _ _ => lN'); obtain ⟨N11, e13⟩ := hand_pre2 lN' list_na list_na (by assumption) (by assumption); k_dflt (refine' walk_bytes_ok _ _ _ _ _ _ _ _ _ _ _ _ _ _ _ _ _ _ _ _ _ _ _ _ _ _ _ _ _ _ _ _ _ _ _ _ _ _ ?k1 ?k2 ?k3 ?k4 ?k5 ?kK ?kd ?ku ?hx ?hdx ?hne ?hpl ?hsl ?hvs ?hP ?hz ?_; (case k1 => k_asm); (case k2 => k_asm); (case k3 => k_asm); (case hx => exact N11); (case k4 => exact led_tail N11); (case k5 => k_asm); (case kK => first | exact rfl | assumption); (case hpl => k_mem); (case hsl => exact List.mem_cons_self); (case hdx => k_mem); (case hne => exact e13); (case hvs => assumption); (case hP => exact Pairs.mono (by assumption) hand_sub); (case hz => exact hand_len (by assumption) (by assumption)); (case kd => ktr_room); (case ku => ktr_units); clear N11 lN'; intro its9 n9 tl9 h9 tk9 hP9 F9 N9 hty9; (try dsimp only); (try k_fold)))
      | ((with_reducible show wpAny _ _ (call (Value.builtin "bytes.split") _) _ _ _); k_here; k_dflt (refine' split_bytes ?F ?N ?hz ?_; (case F => k_asm); (case N => k_asm); (case hz => (rw [Array.size_map]; (refine Nat.le_trans (m := 500) (by assumption) (by decide))))); intro vs9 D9 h9 tk9 hV9 F9 N9 l9; (try k_lt l9); (try k_sweep))
      | ((with_reducible show wpAny _ _ (getMethod (Value.bytes _ _) _ _) _ _ _); k_here; k_dflt (refine' gm_bsplit ?_); k_whole)
      | ((with_reducible show wpAny _ _ (call (Value.ref _) _) _ _ _); k_here; k_dflt (show wpAny _ _ (call (Value.ref 83) [Value.ref _, Value.ref _]) _ _ _); k_dflt (refine' reset_ok _ _ _ _ _ _ _ _ _ _ _ _ _ _ _ _ _ _ _ _ _ _ _ _ _ _ _ _ _ _ _ ?k1 ?k2 ?k3 ?k4 ?k5 ?kK ?kd ?ku ?hx ?hl ?hxl ?hne ?hne' ?hxd ?hz ?_; (case k1 => k_asm); (case k2 => k_asm); (case k3 => k_asm); (case hx => k_asm); (case k4 => exact led_tail (led_tail (by k_asm))); (case k5 => k_asm); (case kK => first | exact rfl | assumption); (case hl => exact List.mem_cons_self); (case hxl => assumption); (case hne => assumption); (case hne' => assumption); (case hxd => assumption); (case hz => (simp only [List.size_toArray]; omega)); (case kd => ktr_room); (case ku => ktr_units); intro n9 t9 h9 tk9 F9 N9; (try dsimp only); (try k_fold)))
      | ((with_reducible show wpAny _ _ (eval (PySem.Expr.ListComp _ _ _ _) _) _ _ _); k_here; k_dflt (refine' comp_dec ?hh ?F ?X ?N ?hov ?hf ?hx ?hP ?hS ?hsh ?hz ?hg ?hfv ?hkf ?hfree ?hcell ?hkind ?hnames ?hxa ?hxb ?hab ?hxf ?hda ?hdb ?hdf ?hfr ?hf0 ?hfe ?hcl ?hiter ?hdec ?hdone ?hraise ?hs; (case hh => exact rfl); (case F => k_asm); (case X => k_asm); (case N => k_asm); (case hov => kernel_rfl); (case hf => k_is); (case hx => k_mem); (case hP => exact Pairs.mono (by assumption) (fun q hq => List.mem_cons_of_mem _ (List.mem_cons_of_mem _ hq))); (case hS => assumption); (case hsh => assumption); (case hz => omega); (case hg => exact Top.g (by assumption)); (case hfv => exact mg_of (by k_asm) (Top.g (by assumption)) (by k_is)); (case hkf => first | kernel_rfl | k_is); (case hfree => decide); (case hcell => decide); (case hkind => exact rfl); (case hnames => decide); (case hxa => exact rfl); (case hxb => exact rfl); (case hab => decide); (case hxf => exact rfl); (case hda => decide); (case hdb => decide); (case hdf => decide); (case hfr => exact rfl); (case hf0 => exact rfl); (case hfe => exact rfl); (case hcl => exact cl_of (by assumption) rfl); (case hiter => exact wpAny_Name (wpAny_loadName_local rfl rfl (Fr.ns (by k_asm)) rfl ⟨rfl, rfl⟩) (by decide)); (case hs => intro _; rfl); (case hdec => walk_at "MY dec")); (case' hdone => intro hAP9 ys9 tl9 D9 h9 tk9 hP9 hyl9 F9 N9 off9 offl9; obtain ⟨N10, e10, e11, e12, hP10⟩ := hand_pre N9 off9 offl9 (by assumption) (by assumption) hP9 acc_nt dict_nt; clear N9); (case' hraise => intro hNP9 e9 h9 tk9 U9 R9; refine Stop9.mk' ?_))
      | ((with_reducible show wpAny _ _ (call (Value.ref _) _) _ _ _); k_here; k_dflt (show wpAny _ _ (call (Value.ref 113) [Value.str _ _]) _ _ _); k_dflt (refine' dec_ok _ _ _ _ _ _ _ _ _ _ _ _ _ _ _ _ _ _ _ _ _ _ _ _ ?k1 ?k2 ?k3 ?k4 ?k5 ?kK ?kT ?kd ?ku ?kz ?kr ?kx; (case k1 => k_asm); (case k2 => k_asm); (case k3 => k_asm); (case k4 => k_asm); (case k5 => k_asm); (case kK => first | exact rfl | assumption); (case kT => assumption); (case kd => ktr_room); (case ku => ktr_units); (case kz => omega)); (case' kr => intro hA9 t9 h9 tk9 F9 N9; (try dsimp only); (try k_fold)); (case' kx => intro hB9 e9 hm9 h9 tk9 F9 U9 R9; refine Stop9.mk' ?_))
      | ((with_reducible show wpAny _ _ (call (Value.ref _) _) _ _ _); k_here; k_dflt (show wpAny _ _ (call (Value.ref 120) [Value.bytes _ _]) _ _ _); k_dflt (refine' sep_bytes_ok _ _ _ _ _ _ _ _ _ _ _ _ _ _ _ _ _ _ _ _ _ _ _ _ ?k1 ?k2 ?k3 ?k4 ?k5 ?kK ?kd ?ku ?_; (case k1 => k_asm); (case k2 => k_asm); (case k3 => k_asm); (case k4 => k_asm); (case k5 => k_asm); (case kK => first | exact rfl | assumption); (case kd => ktr_room); (case ku => ktr_units); intro t9 h9 tk9 F9 N9; (try dsimp only); (try k_fold)))
      | ((with_reducible show wpAny _ _ (getMethod (Value.ref _) _ _) _ _ _); k_here; k_dflt (refine' getm_accF ?k1 ?k2 ?k3 ?k4 ?k5 ?k6 ?k7 ?_; (case k1 => k_asm); (case k2 => k_asm); (case k3 => k_inst); (case k4 => kernel_rfl); (case k5 => k_is); (case k6 => k_is); (case k7 => k_get); k_whole)))
    | (k_unfold; (try dsimp only)) | (k_end; kc_close) | walk1 | (dsimp only; walk1) | (leave1; (try dsimp only)) | fail "no step")
  · show wpAny _ _ (leaving _ (.ref _)) _ _ _
    rename RaisedX _ _ _ _ _ _ => R9
    rename Heap.UpToSlots _ _ => U9
    refine RaisedF.leave R9 rfl rfl fun h' R U => hraise (fun h => not_ascii (by assumption) h.1) _ _ h' _ (by assumption) ((Heap.UpToSlots.of_keeps (Fr.keep (by assumption))).trans (U9.trans U)) R
  · show wpAny _ _ (leaving _ (.ref _)) _ _ _
    rename RaisedF _ _ _ _ _ _ _ => R9
    rename Heap.UpToSlots _ _ => U9
    rename ¬ AsciiP ps => hN9
    exact RaisedF.leaveH R9 rfl fun h' R U => hraise (fun h => hN9 h.2) _ _ h' _ (by assumption) (U9.trans U) R
  · rename Pairs _ _ (walkAll _ _ _ _ _) => hP9
    rename AsciiP ps => hA9
    rename ∀ c ∈ rest.cps, c < 128 => hR9
    rename News _ _ _ _ => N9
    obtain ⟨a1, a2, a3⟩ := hand_post N9 hP9 (by assumption) (by assumption) dict_nt
    exact hret hR9 hA9 _ _ _ _ _ _ a1 (by k_asm) a2 a3
end
end Mine
end
section
open PySem PySem.W PyProof.Rows
set_option maxRecDepth 100000
set_option maxHeartbeats 1000000
namespace Mine
theorem top_none {mean : ExcName → Option Value} {mg mb : Str → Option Value} {h : Heap} {x : Str} (T : Top p0 loose0 mean mg mb h) (h1 : x ∉ startupNames) (h2 : x ∉ loose0) : mg x = none :=
  T.free x h1 h2 (by rw [recs0]; simp) (by rw [lits0]; simp) (by rw [clss0]; simp)
theorem top_boot {mean : ExcName → Option Value} {mg mb : Str → Option Value} {h : Heap} {x : Str} {v : Value} (T : Top p0 loose0 mean mg mb h) (h1 : x ≠ "__name__") (h2 : bootBuiltins x = some v) : mb x = some v := (T.builtins x h1).trans h2
theorem take_small {vs : List Value} {l : List Int} (hi : IntsAre vs (List.take 24 l)) : vs.length ≤ 1000 := by
  have := hi.length
  rw [List.length_take] at this; omega
end Mine
end
section
open PySem PySem.W PyProof.Rows PySem.Calls
set_option maxRecDepth 100000
set_option maxHeartbeats 1000000
namespace Mine
theorem strs_take {vs : List Value} {xs : List Str} (h : StrsAre vs xs) : ∀ i, StrsAre (vs.take i) (xs.take i) := by
  induction h with
  | nil => intro i; simp; exact .nil
  | cons y t _ ih =>
    intro i
    cases i with
    | zero => exact .nil
    | succ i => exact .cons y t (ih i)
theorem strs_drop {vs : List Value} {xs : List Str} (h : StrsAre vs xs) : ∀ i, StrsAre (vs.drop i) (xs.drop i) := by
  induction h with
  | nil => intro i; simp; exact .nil
  | cons y t h ih =>
    intro i
    cases i with
    | zero => exact .cons y t h
    | succ i => exact ih i
section
variable {prog : Program} {w : World} {A : Around} {E : Value → Shared → Prop} {s : Shared} {h₀ : Heap} {L l : Addr} {m : Str → Option Value} {news : List (Addr × Obj)} {value slice : PySem.Expr} {vs ws : List Value} {xs ys : List Str} {n n' i : Nat} {t : Tok} {Q : Value → Shared → Prop}
theorem clamp (i n : Nat) : max (0 : Int) (min (i : Int) (n : Int)) = ((min (i : Int).toNat n : Nat) : Int) := by
  rw [Int.toNat_natCast, Int.max_eq_right (Int.le_min.mpr ⟨Int.natCast_nonneg i, Int.natCast_nonneg n⟩)]
  rcases Nat.le_total i n with h | h
  · rw [Nat.min_eq_left h, Int.min_eq_left (Int.ofNat_le.mpr h)]
  · rw [Nat.min_eq_right h, Int.min_eq_right (Int.ofNat_le.mpr h)]
theorem slice_upto_strs (F : Fr h₀ L s.heap m) (N : News h₀ L s.heap news) (hl : (l, listOf vs.toArray n) ∈ news) (hi : StrsAre vs xs) (hz : xs.length ≤ 1000)
    (h : ∀ D h', Fr h₀ L h' m → News h₀ L h' ((D, listOf (vs.take i).toArray 0) :: news) → StrsAre (vs.take i) (xs.take i) → (∀ p ∈ news, p.1 < D) → Q (.ref D) { s with heap := h' })
    (hs : subscripted slice false (.ref l) (.ref s.heap.objs.size) = operate [.ref s.heap.objs.size, .ref l] (getItem (.ref l) (.ref s.heap.objs.size))) (ht : ∀ r, letTemporaryGo value (.ref l) r = pure ()) :
    wpAny (model prog w) A (subscriptTail value slice (.ref l) (.ref s.heap.objs.size)) Q E { s with heap := s.heap.push { cls := .type "slice", data := .fields #[.none, .int (i : Int) t, .none] } } := by
  have e : sliceBounds none (some (i : Int)) none vs.toArray.size = (((0 : Nat) : Int), ((min (i : Int).toNat vs.toArray.size : Nat) : Int), 1) := by
    simp only [sliceBounds, Option.getD_none, show (1 : Int) > 0 by decide, if_true, if_neg (show ¬ ((i : Int) < 0) by omega)]
    congr 1
    congr 1
    exact clamp i _
  have e2 : slicePick vs.toArray none (some (i : Int)) none = (vs.take i).toArray := by
    rw [kmk_pick_nat _ e, List.drop_zero, Nat.sub_zero, List.size_toArray, Int.toNat_natCast]
    rw [kmk_take_min]
  refine kmk_slice F N (News.isList N hl) .none (.int _ _) (fun D h' F' N' l1 => h D h' F' (by rw [← e2]; exact N') (strs_take hi i) l1) hs ht (by rw [List.size_toArray, strs_len hi, sizeLine_eq]; omega)
theorem slice_from_strs (F : Fr h₀ L s.heap m) (N : News h₀ L s.heap news) (hl : (l, listOf vs.toArray n) ∈ news) (hi : StrsAre vs xs) (hz : xs.length ≤ 1000)
    (h : ∀ D h', Fr h₀ L h' m → News h₀ L h' ((D, listOf (vs.drop i).toArray 0) :: news) → StrsAre (vs.drop i) (xs.drop i) → (∀ p ∈ news, p.1 < D) → Q (.ref D) { s with heap := h' })
    (hs : subscripted slice false (.ref l) (.ref s.heap.objs.size) = operate [.ref s.heap.objs.size, .ref l] (getItem (.ref l) (.ref s.heap.objs.size))) (ht : ∀ r, letTemporaryGo value (.ref l) r = pure ()) :
    wpAny (model prog w) A (subscriptTail value slice (.ref l) (.ref s.heap.objs.size)) Q E { s with heap := s.heap.push { cls := .type "slice", data := .fields #[.int (i : Int) t, .none, .none] } } := by
  have e : sliceBounds (some (i : Int)) none none vs.toArray.size = (((min (i : Int).toNat vs.toArray.size : Nat) : Int), ((vs.toArray.size : Nat) : Int), 1) := by
    simp only [sliceBounds, Option.getD_none, show (1 : Int) > 0 by decide, if_true, if_neg (show ¬ ((i : Int) < 0) by omega)]
    congr 1
    exact clamp i _
  have e2 : slicePick vs.toArray (some (i : Int)) none none = (vs.drop i).toArray := by
    rw [kmk_pick_nat _ e, List.size_toArray, Int.toNat_natCast, kmk_drop_min, List.take_of_length_le (by rw [List.length_drop]; omega)]
  refine kmk_slice F N (News.isList N hl) (.int _ _) .none (fun D h' F' N' l1 => h D h' F' (by rw [← e2]; exact N') (strs_drop hi i) l1) hs ht (by rw [List.size_toArray, strs_len hi, sizeLine_eq]; omega)
theorem add_strs {a b : Addr} (F : Fr h₀ L s.heap m) (N : News h₀ L s.heap news) (ha : (a, listOf vs.toArray n) ∈ news) (hb : (b, listOf ws.toArray n') ∈ news) (hi : StrsAre vs xs) (hj : StrsAre ws ys) (hz : xs.length + ys.length ≤ 1000)
    (h : ∀ D h', Fr h₀ L h' m → News h₀ L h' ((D, listOf (vs ++ ws).toArray 0) :: news) → StrsAre (vs ++ ws) (xs ++ ys) → (∀ p ∈ news, p.1 < D) → Q (.ref D) { s with heap := h' }) :
    wpAny (model prog w) A (binaryOp .Add (.ref a) (.ref b)) Q E s :=
  kmk_add_lit F N (News.isList N ha) (News.isList N hb) rfl (fun D h' F' N' l1 => h D h' F' N' (strs_app hi hj) l1) (by
    show vs.length + ws.length ≤ _
    rw [strs_len hi, strs_len hj, sizeLine_eq]; omega)
theorem join_strs {sep : Str} (N : News h₀ L s.heap news) (hl : (l, listOf vs.toArray n) ∈ news) (hi : StrsAre vs xs) (hsep : sep.length ≤ 16) (hw : (xs.map (·.length)).sum + xs.length ≤ 1048576)
    (h : ∀ t' k, Q (.str (Txt.join sep xs) t') { s with toks := k }) : wpAny (model prog w) A (call (.builtin "str.join") [.str sep t, .ref l]) Q E s :=
  join_listW (News.isList N hl) hi hsep hw h
end
end Mine
end
section
open PySem PySem.W PyProof.Rows PySem.Calls
set_option maxRecDepth 100000
set_option maxHeartbeats 1000000
namespace Mine
open PyProof.Rows.LCg (NsObj ns_obj lst CompRest CompEnd Off3 Off1 CompSrc FinE)
theorem ints_of_all {ws : List Value} : (∀ v ∈ ws, ∃ i t, v = Value.int i t) → ∃ ks, IntsAre ws ks := by
  induction ws with
  | nil => intro _; exact ⟨[], .nil⟩
  | cons v ws ih =>
    intro h
    obtain ⟨i, t, rfl⟩ := h v (.head _)
    obtain ⟨ks, hk⟩ := ih fun v hv => h v (.tail _ hv)
    exact ⟨i :: ks, .cons i t hk⟩
theorem ints_get {vs : List Value} {ns : List Int} (h : IntsAre vs ns) : ∀ {i : Nat} {v : Value}, vs[i]? = some v → ∃ t, v = Value.int (ns.getD i 0) t := by
  induction h with
  | nil => intro i v e; simp at e
  | cons y t _ ih =>
    intro i v e
    cases i with
    | zero => simp at e; exact ⟨t, by simp [e]⟩
    | succ i => simp at e; obtain ⟨t', e'⟩ := ih e; exact ⟨t', by simpa using e'⟩
theorem pick_mem {its : Array Value} {a b c : Option Int} : ∀ v ∈ (slicePick its a b c).toList, v ∈ its.toList := by
  intro v hv
  unfold slicePick at hv
  simp only [List.mem_filterMap] at hv
  obtain ⟨i, _, e⟩ := hv
  exact List.mem_of_getElem? (by simpa using e)
theorem pick_ints {vs : List Value} {ns : List Int} {a b c : Option Int} (h : IntsAre vs ns) : ∃ ks, IntsAre (slicePick vs.toArray a b c).toList ks := by
  refine ints_of_all fun v hv => ?_
  have := pick_mem v hv
  obtain ⟨i, e⟩ := List.mem_iff_getElem?.mp this
  obtain ⟨t, rfl⟩ := ints_get h e
  exact ⟨_, _, rfl⟩
section
variable {prog : Program} {w : World} {A : Around} {E : Value → Shared → Prop} {s : Shared} {h₀ : Heap} {L : Addr} {m : Str → Option Value} {news : List (Addr × Obj)}
theorem sum_ints {l : Addr} {vs : List Value} {ns : List Int} {Q : Value → Shared → Prop} (hh : A.handled = none) (F : Fr h₀ L s.heap m) (N : News h₀ L s.heap news) (hl : s.heap.IsList l vs.toArray) (hi : IntsAre vs ns)
    (h : ∀ h' tk t', Fr h₀ L h' m → News h₀ L h' news → Q (.int ns.sum t') { s with heap := h', toks := tk }) : wpAny (model prog w) A (call (.builtin "sum") [.ref l]) Q E s := by
  obtain ⟨o, ho, hr⟩ := id hl
  have hne : l ≠ s.heap.objs.size := Nat.ne_of_lt (Heap.lt_size ho)
  have W := (Walks.list (prog := prog) (w := w) (A := A.in1) hh s.heap.objs.size l hne vs.toArray).toS
  have hlen : vs.toArray.size = ns.length := by rw [List.size_toArray]; exact hi.length
  refine call_sum_walkAnyS (wpAny_pyIter_list hl ?_)
  refine ⟨s.heap.objs.size, _, _, _, _, _, _, fun i => ns.getD i 0, rfl, W, ⟨⟨_, Heap.get?_push_size _ rfl, rfl, rfl⟩, hl.push _⟩, fun b hb => ?_, fun i v hP => ints_get hi (by simpa using hP), fun s' t' hm => ?_⟩
  · rcases List.mem_cons.mp hb with rfl | hb
    · exact Heap.lt_size (Heap.get?_push_size _ rfl)
    · obtain rfl := List.mem_singleton.mp hb
      exact Heap.lt_size (Heap.get?_push_of_some _ ho)
  · obtain ⟨h', g', d', tk', os'⟩ := s'
    have e1 : g' = s.gens := hm.gens
    have e2 : d' = s.drawn := hm.drawn
    have e3 : os' = s.os := hm.os
    subst e1 e2 e3
    have hk : ∀ b o, s.heap.get? b = some o → h'.get? b = some o := fun b o e => hm.heap b o (fun hb => absurd (Heap.lt_size e) ((List.mem_singleton.mp hb) ▸ Nat.lt_irrefl _)) (Heap.get?_push_of_some _ e)
    have := h h' tk' t' (F.keeps hk) (N.grown hk)
    rw [preSum_getD, hlen, List.take_length]
    exact this
/-- a comprehension's turns by what holds between them -/
theorem rest_of {env : Env} {elt : Expr} {x : Str} {scope : Scope} {cl : List (Str × Addr)} {S : List (Addr × Obj) → Prop} {P : Nat → Value → Prop} {Fin : List Value → List (Addr × Obj) → Prop} (J : Nat → List Value → List (Addr × Obj) → Prop) {n : Nat}
    (turn : ∀ i ys nw v I oI C oC D m₂ h tk, i < n → ys.length = i → J i ys nw → P i v → NsObj oC m₂ → m₂ x = some v → Fr h₀ L h m → News h₀ L h ((I, oI) :: (C, oC) :: (D, lst ys) :: nw) → Off3 I C D nw →
      ∀ E' : Value → Shared → Prop, wpAny (model prog w) A (eval elt (compEnvC scope cl C env)) (fun y s₂ => ∃ h' tk' nw', s₂ = { s with heap := h', toks := tk' } ∧ Fr h₀ L h' m ∧ News h₀ L h' ((I, oI) :: (C, oC) :: (D, lst ys) :: nw') ∧ Off3 I C D nw' ∧ S nw' ∧ J (i + 1) (ys ++ [y]) nw') E' { s with heap := h, toks := tk })
    (fin : ∀ ys nw, ys.length = n → J n ys nw → Fin ys nw) : ∀ k i ys nw, i + k = n → ys.length = i → J i ys nw → CompRest prog w A h₀ L m env elt x scope cl s S P Fin k i ys nw := by
  intro k
  induction k with
  | zero =>
    intro i ys nw hk hy hJ
    obtain rfl : i = n := by omega
    exact LCg.CompRest.zero (fin ys nw hy hJ)
  | succ k ih =>
    intro i ys nw hk hy hJ
    refine LCg.CompRest.succ fun v I oI C oC D m₂ h tk E' hP hC hm F N off ne => ?_
    refine wpAny_mono (turn i ys nw v I oI C oC D m₂ h tk (by omega) hy hJ hP hC hm F N off E') (fun y s₂ h₂ => ?_) fun _ _ e => e
    obtain ⟨h', tk', nw', rfl, F', N', off', hS, hJ'⟩ := h₂
    exact ⟨h', tk', nw', rfl, F', N', off', hS, ih (i + 1) (ys ++ [y]) nw' (by omega) (by simp [hy]) hJ'⟩
end
section
variable {prog : Program} {w : World} {A : Around} {E : Value → Shared → Prop} {s : Shared} {h₀ : Heap} {L : Addr} {m mg mb : Str → Option Value} {news : List (Addr × Obj)} {env : Env} {K : Frag} {p : Program} {loose : List Str} {mean : ExcName → Option Value}
theorem piece_elt {k nb fn : Str} {p1 p2 p3 p4 p5 p6 p7 p8 p9 p10 : Pos} {kk : Nat} {f c nl : Addr} {oc : Obj} {m₂ : Str → Option Value} {i : Int} {ti : Tok} {vs : List Value} {ns : List Int} {nn : Nat} {Q : Value → Shared → Prop}
    (hh : A.handled = none) (hk : env.scope.kind = .function) (hf : env.kindOf fn = some .globalImplicit) (hfd : (fn == ("__debug__" : Str)) = false) (hsum : env.kindOf (Str.ofString "sum") = some .globalImplicit) (hkl : env.kindOf k = some .local) (hkd : (k == ("__debug__" : Str)) = false)
    (hnf : env.kindOf nb = some .cell) (hnd : (nb == ("__debug__" : Str)) = false) (hncd : (nb == ("__classdict__" : Str)) = false) (hcl : env.cells.lookup nb = some c)
    (F : Fr h₀ L s.heap m) (N : News h₀ L s.heap news) (X : K.In h₀) (hkf : keepIn K (.ref f) = true) (T : Top p loose mean mg mb h₀) (hg : env.globals = mainGlobals) (hb : env.builtins = builtinsNs) (hfv : mg fn = some (.ref f)) (hsg : mg (Str.ofString "sum") = none) (hsb : mb (Str.ofString "sum") = some (.builtin "sum"))
    (hn : s.heap.Ns env.locals m₂) (hm : m₂ k = some (.int i ti)) (hcell : (c, oc) ∈ news) (hcd : oc.data = .cell (some (.ref nl))) (hl : (nl, listOf vs.toArray nn) ∈ news) (hi : IntsAre vs ns) (hz : vs.length ≤ 1000)
    (h : ∀ part t2 h' tk, Fr h₀ L h' m → News h₀ L h' news → wpAny (model prog w) A (call (.ref f) [.int i ti, .int part t2]) Q E { s with heap := h', toks := tk }) :
    wpAny (model prog w) A (eval (.Call (.Name fn p1) [.Name k p2, .Call (.Name (Str.ofString "sum") p3) [.Subscript (.Name nb p4) (.Slice (some (.Name k p5)) none (some (.Constant (.int 8) kk p6)) p7) p8] [] p9] [] p10) env) Q E s := by
  have hgs : s.heap.Ns env.globals mg := hg ▸ (T.g.keeps F.keep)
  have hbs : s.heap.Ns env.builtins mb := hb ▸ (T.b.keeps F.keep)
  have X' := X.keeps F.keep
  refine wpAny_Call_NameR (Calls.Name_function_global hk hf (Calls.loadGlobal_global hgs hfv ?_) hfd)
  refine callWith_K X' hkf ?_
  rw [show backTo p10 (starEach [.Name k p2, .Call (.Name (Str.ofString "sum") p3) [.Subscript (.Name nb p4) (.Slice (some (.Name k p5)) none (some (.Constant (.int 8) kk p6)) p7) p8] [] p9] env) = [(false, eval (.Name k p2) env), (false, eval (.Call (.Name (Str.ofString "sum") p3) [.Subscript (.Name nb p4) (.Slice (some (.Name k p5)) none (some (.Constant (.int 8) kk p6)) p7) p8] [] p9) env)] from rfl]
  refine Calls.spliced_cons (wpAny_Name (wpAny_loadName_local hk hkl hn hm ?_) hkd)
  refine Calls.spliced_cons (wpAny_Call_NameR (Calls.Name_function_global hk hsum (Calls.loadGlobal_builtin hgs hsg hbs hsb ?_) (by decide)))
  rw [show backTo p9 (starEach [.Subscript (.Name nb p4) (.Slice (some (.Name k p5)) none (some (.Constant (.int 8) kk p6)) p7) p8] env) = [(false, eval (.Subscript (.Name nb p4) (.Slice (some (.Name k p5)) none (some (.Constant (.int 8) kk p6)) p7) p8) env)] from rfl]
  refine PySem.callWith_builtin1 (Subscript_ ?_)
  refine wpAny_Name (wpAny_loadName_cell hk hnf hcl ⟨oc, (N _ hcell).1, hcd⟩ ?_) hnd
  refine wpAny_Slice (evalPart_some_step (wpAny_Name (wpAny_loadName_local hk hkl hn hm ?_) hkd))
  refine evalPart_none_step (evalPart_some_step (wpAny_Constant_int ?_))
  refine slice_list3 (s := { s with toks := _ }) F N (News.isList N hl) (.int _ _) .none (.int _ _) (by decide) (fun h' F' N' => ?_) (by with_unfolding_all rfl) (by intro _; with_unfolding_all rfl) (by rw [List.size_toArray, sizeLine_eq]; omega)
  obtain ⟨ks, hks⟩ := pick_ints (a := some i) (b := none) (c := some 8) hi
  refine sum_ints (vs := (slicePick vs.toArray (some i) none (some 8)).toList) hh F' (led_tail N') ⟨_, (N' _ (.head _)).1, rfl, 0, by simp⟩ hks fun h'' tk t' F'' N'' => ?_
  exact Calls.spliced_nil ⟨X.keeps F''.keep, h _ _ _ _ F'' N''⟩
theorem off_get {I C D : Addr} {l : List (Addr × Obj)} (h : Off3 I C D l) {p : Addr × Obj} (hp : p ∈ l) : p.1 ≠ I ∧ p.1 ≠ C ∧ p.1 ≠ D := h.mem p hp
/-- the eight pieces -/
theorem pieces_comp {k nb fn : Str} {p1 p2 p3 p4 p5 p6 p7 p8 p9 p10 p11 p12 p13 p14 pos : Pos} {kk k2 : Nat} {c nl : Addr} {oc : Obj} {scope : Scope} {cl : List (Str × Addr)} {vs : List Value} {ns : List Int} {nn : Nat} {Q : Value → Shared → Prop}
    (hh : A.handled = none) (F : Fr h₀ L s.heap m) (N : News h₀ L s.heap news) (X : K.In h₀) (hkf : keepIn K (.ref 127) = true) (T : Top p loose mean mg mb h₀) (hg : env.globals = mainGlobals) (hb : env.builtins = builtinsNs)
    (hek : env.scope.kind = .function) (her : env.kindOf (Str.ofString "range") = some .globalImplicit)
    (hfv : mg fn = some (.ref 127)) (hsg : mg (Str.ofString "sum") = none) (hsb : mb (Str.ofString "sum") = some (.builtin "sum")) (hrg : mg (Str.ofString "range") = none) (hrb : mb (Str.ofString "range") = some (.type "range"))
    (hclos : closureFor scope env = pure cl) (hcell : ∀ y ∈ scope.names, y.2 ≠ .cell) (hkind : scope.kind = .function) (hnames : ∀ y ∈ scope.names, y.2 = .local → scope.names.lookup y.1 = some .local) (hx : scope.names.lookup k = some .local)
    (hkd : (k == ("__debug__" : Str)) = false) (hfd : (fn == ("__debug__" : Str)) = false) (hnd : (nb == ("__debug__" : Str)) = false) (hncd : (nb == ("__classdict__" : Str)) = false)
    (hxf : (relabel scope env).names.lookup fn = some .globalImplicit) (hxs : (relabel scope env).names.lookup (Str.ofString "sum") = some .globalImplicit) (hxn : (relabel scope env).names.lookup nb = some .cell) (hclk : cl.lookup nb = some c)
    (hcm : (c, oc) ∈ news) (hcd : oc.data = .cell (some (.ref nl))) (hl : (nl, listOf vs.toArray nn) ∈ news) (hi : IntsAre vs ns) (hz : vs.length ≤ 1000)
    (hpc : ∀ (i part : Int) (t1 t2 : Tok) nw h tk (Q' E' : Value → Shared → Prop), 0 ≤ i → i < 8 → Fr h₀ L h m → News h₀ L h nw → (∀ x t h' tk', Piece x → Fr h₀ L h' m → News h₀ L h' nw → Q' (.str x t) { s with heap := h', toks := tk' }) →
      wpAny (model prog w) A (call (.ref 127) [.int i t1, .int part t2]) Q' E' { s with heap := h, toks := tk })
    (hQ : ∀ ys xs D h tk, StrsAre ys xs → xs.length = 8 → (∀ x ∈ xs, Piece x) → Fr h₀ L h m → News h₀ L h ((D, lst ys) :: news) → Off1 D news → Q (.ref D) { s with heap := h, toks := tk }) :
    wpAny (model prog w) A (eval (.ListComp (.Call (.Name fn p1) [.Name k p2, .Call (.Name (Str.ofString "sum") p3) [.Subscript (.Name nb p4) (.Slice (some (.Name k p5)) none (some (.Constant (.int 8) kk p6)) p7) p8] [] p9] [] p10)
      [⟨.Name k p11, .Call (.Name (Str.ofString "range") p12) [.Constant (.int 8) k2 p13] [] p14, [], 0⟩] scope pos) env) Q E s := by
  have hgs : s.heap.Ns env.globals mg := hg ▸ (T.g.keeps F.keep)
  have hbs : s.heap.Ns env.builtins mb := hb ▸ (T.b.keeps F.keep)
  refine LCg.ListComp_U F hclos hcell hkind hnames hx ?_
  refine wpAny_Call_NameR (Calls.Name_function_global hek her (Calls.loadGlobal_builtin hgs hrg hbs hrb ?_) (by decide))
  rw [show backTo p14 (starEach [.Constant (.int 8) k2 p13] env) = [(false, eval (.Constant (.int 8) k2 p13) env)] from rfl]
  refine PySem.callWith_type1 (wpAny_Constant_int (call_range_1 ?_))
  have F₁ := F.push { cls := .type "range", data := .fields #[.int 0 (s.toks + 1), .int 8 s.toks, .int 1 (s.toks + 1 + 1)] }
  have N₁ : News h₀ L (s.heap.push { cls := .type "range", data := .fields #[.int 0 (s.toks + 1), .int 8 s.toks, .int 1 (s.toks + 1 + 1)] }) news := N.grown fun _ _ e => Heap.get?_push_of_some _ e
  refine LCg.CompSrc.range (n := 8) hh F₁ N₁ (Heap.get?_push_size _ rfl) (by decide) (by decide) (by decide) fun g => ?_
  refine rest_of (J := fun i ys nw => nw = news ∧ ∃ xs, StrsAre ys xs ∧ xs.length = i ∧ ∀ x ∈ xs, Piece x) ?_ ?_ 8 0 [] news rfl rfl ⟨rfl, [], .nil, rfl, fun x hx => nomatch hx⟩
  · rintro i ys nw v I oI C oC D m₂ h tk hi8 hyl ⟨rfl, xs, hxs', hxl, hxp⟩ ⟨t, rfl⟩ hNC hmk F₂ N₂ off E'
    have hC := (N₂ (C, oC) (List.mem_cons_of_mem _ List.mem_cons_self)).1
    refine piece_elt (c := c) (oc := oc) (nl := nl) (vs := vs) (nn := nn) (ns := ns) (m₂ := m₂) (mg := mg) (mb := mb) (K := K) hh (by exact hkind) hxf hfd hxs (lookup_relabel_local hx) hkd hxn hnd hncd hclk F₂ N₂ X hkf T hg hb hfv hsg hsb (hNC.ns hC) hmk ?_ hcd ?_ hi hz fun part t2 h' tk' F₃ N₃ => ?_
    · exact List.mem_cons_of_mem _ (List.mem_cons_of_mem _ (List.mem_cons_of_mem _ hcm))
    · exact List.mem_cons_of_mem _ (List.mem_cons_of_mem _ (List.mem_cons_of_mem _ hl))
    · refine hpc _ part _ _ _ h' tk' _ _ (by omega) (by omega) F₃ N₃ fun x t h'' tk'' hp F₄ N₄ => ⟨h'', tk'', nw, rfl, F₄, N₄, off, trivial, rfl, xs ++ [x], strs_app hxs' (.cons x t .nil), by simp [hxl], fun y hy => ?_⟩
      rcases List.mem_append.mp hy with hy | hy
      · exact hxp y hy
      · rw [List.mem_singleton.mp hy]; exact hp
  · rintro ys nw hyl ⟨rfl, xs, hxs', hxl, hxp⟩ D h tk F₂ N₂ off
    exact hQ ys xs D h tk hxs' hxl hxp F₂ N₂ off
end
end Mine
end
section
open PySem PySem.W PyProof.Rows PySem.Calls
set_option maxRecDepth 100000
set_option maxHeartbeats 1000000
namespace Mine
open PyProof.Rows.LCg (NsObj ns_obj lst CompRest CompEnd Off3 Off1 CompSrc FinE)
section
variable {prog : Program} {w : World} {A : Around} {E : Value → Shared → Prop} {s : Shared} {h₀ : Heap} {L : Addr} {m mg mb : Str → Option Value} {news : List (Addr × Obj)} {env : Env} {K : Frag} {p : Program} {loose : List Str} {mean : ExcName → Option Value}
/-- a comprehension over a list of texts whose element keeps what stands -/
theorem strs_comp {y src : Str} {p1 p2 pos : Pos} {elt : Expr} {l : Addr} {scope : Scope} {cl : List (Str × Addr)} {vs : List Value} {xs : List Str} {nn : Nat} {Q : Value → Shared → Prop} (F' : Nat → Value → Prop)
    (hh : A.handled = none) (F : Fr h₀ L s.heap m) (N : News h₀ L s.heap news) 
    (hek : env.scope.kind = .function) (hes : env.kindOf src = some .local) (hsd : (src == ("__debug__" : Str)) = false) (hLe : env.locals = L) (hms : m src = some (.ref l))
    (hclos : closureFor scope env = pure cl) (hcell : ∀ y ∈ scope.names, y.2 ≠ .cell) (hkind : scope.kind = .function) (hnames : ∀ y ∈ scope.names, y.2 = .local → scope.names.lookup y.1 = some .local) (hx : scope.names.lookup y = some .local)
    (hl : (l, listOf vs.toArray nn) ∈ news) (hi : StrsAre vs xs) (hz : vs.length ≤ 1000)
    (helt : ∀ i x t C m₂ (s₂ : Shared) (E' : Value → Shared → Prop), xs[i]? = some x → s₂.heap.Ns C m₂ → m₂ y = some (.str x t) → Fr h₀ L s₂.heap m → wpAny (model prog w) A (eval elt (compEnvC scope cl C env)) (fun v s₃ => F' i v ∧ Keeps s₂ s₃) E' s₂)
    (hQ : ∀ ys D h tk, ys.length = xs.length → (∀ i v, ys[i]? = some v → F' i v) → Fr h₀ L h m → News h₀ L h ((D, lst ys) :: news) → Off1 D news → Q (.ref D) { s with heap := h, toks := tk })
    (hs : ∀ x, foldedSetIterable (.Name src p2) env x = pure x := by intro _; rfl) :
    wpAny (model prog w) A (eval (.ListComp elt [⟨.Name y p1, .Name src p2, [], 0⟩] scope pos) env) Q E s := by
  have hlen := strs_len hi
  refine LCg.ListComp_U F hclos hcell hkind hnames hx ?_ hs
  refine wpAny_Name (wpAny_loadName_local hek hes (hLe ▸ F.ns) hms ?_) hsd
  refine LCg.CompSrc.ledger hh F N hl (by rw [List.size_toArray, sizeLine_eq]; omega) fun g => ?_
  refine rest_of (J := fun i ys nw => nw = news ∧ ∀ j v, ys[j]? = some v → F' j v) ?_ ?_ _ 0 [] news (Nat.zero_add _) rfl ⟨rfl, fun j v e => by simp at e⟩
  · rintro i ys nw v I oI C oC D m₂ h tk hi8 hyl ⟨rfl, hF⟩ hP hNC hmk F₂ N₂ off E'
    have hC := (N₂ (C, oC) (List.mem_cons_of_mem _ List.mem_cons_self)).1
    obtain ⟨x, t, rfl, hxi⟩ := strs_get hi (by simpa using hP)
    refine wpAny_mono (helt i x t C m₂ _ E' hxi (hNC.ns hC) hmk F₂) (fun v s₃ h₃ => ?_) fun _ _ e => e
    obtain ⟨hv, h', tk', rfl, hk⟩ := h₃
    refine ⟨h', tk', nw, rfl, F₂.keeps hk, N₂.grown hk, off, .inr ⟨_, hl, rfl, _, rfl⟩, rfl, fun j v' e => ?_⟩
    rcases Nat.lt_or_ge j ys.length with hj | hj
    · rw [List.getElem?_append_left hj] at e; exact hF j v' e
    · rw [List.getElem?_append_right hj] at e
      obtain rfl : j = i := by
        by_cases q : j - ys.length = 0
        · omega
        · rw [List.getElem?_eq_none (by simp; omega)] at e; cases e
      simp [hyl] at e
      rw [← e]; exact hv
  · rintro ys nw hyl ⟨rfl, hF⟩ D h tk F₂ N₂ off
    exact hQ ys D h tk (by rw [hyl, List.size_toArray, hlen]) hF F₂ N₂ off
theorem strs_of {ys : List Value} {xs : List Str} (hl : ys.length = xs.length) (h : ∀ (i : Nat) v, ys[i]? = some v → ∃ t x, v = Value.str x t ∧ xs[i]? = some x) : StrsAre ys xs := by
  induction ys generalizing xs with
  | nil => cases xs with
    | nil => exact .nil
    | cons x xs => simp at hl
  | cons v ys ih =>
    cases xs with
    | nil => simp at hl
    | cons x xs =>
      obtain ⟨t, x', rfl, e⟩ := h 0 v (by simp)
      simp at e; subst e
      exact .cons x t (ih (by simpa using hl) fun i v e => h (i + 1) v (by simpa using e))
theorem ints_of {ys : List Value} {xs : List Int} (hl : ys.length = xs.length) (h : ∀ (i : Nat) v, ys[i]? = some v → ∃ t x, v = Value.int x t ∧ xs[i]? = some x) : IntsAre ys xs := by
  induction ys generalizing xs with
  | nil => cases xs with
    | nil => exact .nil
    | cons x xs => simp at hl
  | cons v ys ih =>
    cases xs with
    | nil => simp at hl
    | cons x xs =>
      obtain ⟨t, x', rfl, e⟩ := h 0 v (by simp)
      simp at e; subst e
      exact .cons x t (ih (by simpa using hl) fun i v e => h (i + 1) v (by simpa using e))
abbrev slash : Str := Str.ofString "/"
/-- ['/' + name for name in names] -/
theorem text_comp {y src : Str} {p1 p2 p3 p4 p5 pos : Pos} {kk : Nat} {l : Addr} {scope : Scope} {cl : List (Str × Addr)} {vs : List Value} {xs : List Str} {nn : Nat} {Q : Value → Shared → Prop}
    (hh : A.handled = none) (F : Fr h₀ L s.heap m) (N : News h₀ L s.heap news) 
    (hek : env.scope.kind = .function) (hes : env.kindOf src = some .local) (hsd : (src == ("__debug__" : Str)) = false) (hLe : env.locals = L) (hms : m src = some (.ref l))
    (hclos : closureFor scope env = pure cl) (hcell : ∀ y ∈ scope.names, y.2 ≠ .cell) (hkind : scope.kind = .function) (hnames : ∀ y ∈ scope.names, y.2 = .local → scope.names.lookup y.1 = some .local) (hx : scope.names.lookup y = some .local) (hyd : (y == ("__debug__" : Str)) = false)
    (hl : (l, listOf vs.toArray nn) ∈ news) (hi : StrsAre vs xs) (hz : vs.length ≤ 1000) (hsh : ∀ x ∈ xs, x.length ≤ 1000)
    (hQ : ∀ ys D h tk, StrsAre ys (xs.map (slash ++ ·)) → Fr h₀ L h m → News h₀ L h ((D, lst ys) :: news) → Off1 D news → Q (.ref D) { s with heap := h, toks := tk })
    (hs : ∀ x, foldedSetIterable (.Name src p2) env x = pure x := by intro _; rfl) :
    wpAny (model prog w) A (eval (.ListComp (.BinOp (.Constant (.str slash) kk p3) .Add (.Name y p4) p5) [⟨.Name y p1, .Name src p2, [], 0⟩] scope pos) env) Q E s := by
  refine strs_comp (F' := fun i v => ∃ t x, v = .str x t ∧ (xs.map (slash ++ ·))[i]? = some x) hh F N hek hes hsd hLe hms hclos hcell hkind hnames hx hl hi hz ?_ ?_ hs
  · intro i x t C m₂ s₂ E' hxi hn hm F₂
    refine wpAny_BinOp (wpAny_Constant_str (wpAny_Name (wpAny_loadName_local (by exact hkind) (lookup_relabel_local hx) hn hm ?_) hyd))
    have hx1 := hsh x (List.mem_of_getElem? hxi)
    have h47 : slash.length = 1 := by decide +kernel
    refine PyProof.Rows.add_str (fun t' tk => ⟨⟨t', _, rfl, by simp [hxi]⟩, ⟨_, _, rfl, fun _ _ e => e⟩⟩) (by rw [sizeLine_eq]; omega)
  · intro ys D h tk hyl hF F₂ N₂ off
    exact hQ ys D h tk (strs_of (by simpa using hyl) hF) F₂ N₂ off
/-- [1 + len(name) for name in kept] -/
theorem lens_comp {y src : Str} {p1 p2 p3 p4 p5 p6 p7 pos : Pos} {kk : Nat} {l : Addr} {scope : Scope} {cl : List (Str × Addr)} {vs : List Value} {xs : List Str} {nn : Nat} {Q : Value → Shared → Prop}
    (hh : A.handled = none) (F : Fr h₀ L s.heap m) (N : News h₀ L s.heap news) (T : Top p loose mean mg mb h₀) (hg : env.globals = mainGlobals) (hb : env.builtins = builtinsNs)
    (hek : env.scope.kind = .function) (hes : env.kindOf src = some .local) (hsd : (src == ("__debug__" : Str)) = false) (hLe : env.locals = L) (hms : m src = some (.ref l))
    (hlg : mg (Str.ofString "len") = none) (hlb : mb (Str.ofString "len") = some (.builtin "len"))
    (hclos : closureFor scope env = pure cl) (hcell : ∀ y ∈ scope.names, y.2 ≠ .cell) (hkind : scope.kind = .function) (hnames : ∀ y ∈ scope.names, y.2 = .local → scope.names.lookup y.1 = some .local) (hx : scope.names.lookup y = some .local) (hyd : (y == ("__debug__" : Str)) = false)
    (hxl : (relabel scope env).names.lookup (Str.ofString "len") = some .globalImplicit)
    (hl : (l, listOf vs.toArray nn) ∈ news) (hi : StrsAre vs xs) (hz : vs.length ≤ 1000) (hsh : ∀ x ∈ xs, x.length ≤ 1000)
    (hQ : ∀ ys D h tk, IntsAre ys (xs.map fun x => 1 + (x.length : Int)) → Fr h₀ L h m → News h₀ L h ((D, lst ys) :: news) → Off1 D news → Q (.ref D) { s with heap := h, toks := tk })
    (hs : ∀ x, foldedSetIterable (.Name src p2) env x = pure x := by intro _; rfl) :
    wpAny (model prog w) A (eval (.ListComp (.BinOp (.Constant (.int 1) kk p3) .Add (.Call (.Name (Str.ofString "len") p4) [.Name y p5] [] p6) p7) [⟨.Name y p1, .Name src p2, [], 0⟩] scope pos) env) Q E s := by
  refine strs_comp (F' := fun i v => ∃ t x, v = .int x t ∧ (xs.map fun x => 1 + (x.length : Int))[i]? = some x) hh F N hek hes hsd hLe hms hclos hcell hkind hnames hx hl hi hz ?_ ?_ hs
  · intro i x t C m₂ s₂ E' hxi hn hm F₂
    refine wpAny_BinOp (wpAny_Constant_int ?_)
    have hx1 := hsh x (List.mem_of_getElem? hxi)
    refine len_name (mg := mg) (mb := mb) (m := m₂) (a := .s x) (by exact hkind) hxl (lookup_relabel_local hx) hyd (show Heap.Ns _ env.globals mg from hg ▸ (T.g.keeps F₂.keep)) hlg (show Heap.Ns _ env.builtins mb from hb ▸ (T.b.keeps F₂.keep)) hlb hn hm (.s x t) hx1 fun t' tk => ?_
    refine wpAny_add_int ⟨⟨_, _, rfl, by simp [hxi, Tx.len]⟩, ⟨_, _, rfl, fun _ _ e => e⟩⟩
  · intro ys D h tk hyl hF F₂ N₂ off
    exact hQ ys D h tk (ints_of (by simpa using hyl) hF) F₂ N₂ off
end
end Mine
end
section
open PySem PySem.W PyProof.Rows PySem.Calls
set_option maxRecDepth 100000
set_option maxHeartbeats 1000000
namespace Mine
open PyProof.Rows.LCg (NsObj ns_obj lst CompRest CompEnd Off3 Off1 CompSrc FinE)
theorem paired_signs {pz : Nat → Bool} {p : Value → Bool} {F : Value → Value → Prop} {G : Nat → Value → Prop} (hp : ∀ c u, p (.str ⟨#[c]⟩ u) = pz c) (hF : ∀ c u r, F (.str ⟨#[c]⟩ u) r → G c r) :
    ∀ {cs : List Nat} {vs ys : List Value}, vs.length = cs.length → (∀ (j : Nat) v, vs[j]? = some v → ∃ c u, cs[j]? = some c ∧ v = .str ⟨#[c]⟩ u) → Paired F (vs.filter p) ys → Paired G (cs.filter pz) ys
  | [], [], ys, _, _, h => by cases h; exact .nil
  | [], _ :: _, _, h, _, _ => by simp at h
  | _ :: _, [], _, h, _, _ => by simp at h
  | c :: cs, v :: vs, ys, hl, hv, h => by
    obtain ⟨c', u, e, rfl⟩ := hv 0 v rfl
    simp at e; subst e
    have tl := fun (j : Nat) v (e : vs[j]? = some v) => hv (j + 1) v (by simpa using e)
    rw [List.filter_cons, hp] at h
    rw [List.filter_cons]
    cases hc : pz c
    · rw [hc] at h; exact paired_signs hp hF (by simpa using hl) (by simpa using tl) h
    · rw [hc] at h
      cases h with
      | cons h1 h2 => exact .cons (hF c u _ h1) (paired_signs hp hF (by simpa using hl) (by simpa using tl) h2)
section
variable {prog : Program} {w : World} {A : Around} {E : Value → Shared → Prop} {s : Shared} {h₀ : Heap} {L : Addr} {m mg mb : Str → Option Value} {news : List (Addr × Obj)} {env : Env} {K : Frag} {p : Program} {loose : List Str} {mean : ExcName → Option Value}
def signOf : Value → Nat
  | .str x _ => x.cps.getD 0 0
  | _ => 0
/-- a comprehension over a text's signs -/
theorem signs_comp {elt iter : Expr} {x : Str} {px : Pos} {ifs : List Expr} {scope : Scope} {pos : Pos} {Q : Value → Shared → Prop} (pz : Nat → Bool) (G : Nat → Value → Prop)
    (hh : A.handled = none) (hfree : ∀ y ∈ scope.names, y.2 ≠ .free) (hcell : ∀ y ∈ scope.names, y.2 ≠ .cell) (hkind : scope.kind = .function)
    (hnames : ∀ y ∈ scope.names, y.2 = .local → scope.names.lookup y.1 = some .local) (hx : scope.names.lookup x = some .local)
    (h : wpAny (model prog w) A (eval iter env) (fun xv s₁ => ∃ y t, xv = .str y t ∧ y.length ≤ sizeLine ∧ Fr h₀ L s₁.heap m ∧ News h₀ L s₁.heap news ∧
      (∀ C c u (s₂ : Shared) m₂ E', s₂.heap.Ns C m₂ → m₂ x = some (.str ⟨#[c]⟩ u) → Fr h₀ L s₂.heap m →
        wpAny (model prog w) A (forIn ifs true fun c r => if r = true then do let ok ← isTrue c (compEnv scope C env) (eval c (compEnv scope C env)); pure (ForInStep.yield ok) else pure (ForInStep.yield r))
          (fun ok s₃ => ok = pz c ∧ Keeps s₂ s₃) E' s₂) ∧
      (∀ C c u (s₂ : Shared) m₂ E', s₂.heap.Ns C m₂ → m₂ x = some (.str ⟨#[c]⟩ u) → Fr h₀ L s₂.heap m → wpAny (model prog w) A (eval elt (compEnv scope C env)) (fun r s₃ => G c r ∧ Keeps s₂ s₃) E' s₂) ∧
      (∀ D (ys : List Value) n h' tk, Fr h₀ L h' m → News h₀ L h' ((D, listOf ys.toArray n) :: news) → (∀ q ∈ news, q.1 ≠ D) → Paired G (y.cps.toList.filter pz) ys → Q (.ref D) { s₁ with heap := h', toks := tk })) E s)
    (hs : ∀ x, foldedSetIterable iter env x = pure x := by intro _; rfl) :
    wpAny (model prog w) A (eval (.ListComp elt [⟨.Name x px, iter, ifs, 0⟩] scope pos) env) Q E s := by
  refine wpAny_ListComp_walk (fun v => pz (signOf v)) (fun v r => G (signOf v) r) hfree hcell hkind hnames hx (wpAny_mono h (fun xv s₁ h₁ => ?_) fun _ _ e => e) hs
  obtain ⟨y, t, rfl, hsz, F, N, htests, helt, hQ⟩ := h₁
  refine wpAny_pyIter_str fun o St W hst => ?_
  have hI₀ : h₀.get? s₁.heap.objs.size = none := Heap.get?_none_of_le (Nat.le_of_lt (Nat.lt_of_le_of_lt F.above F.ns.lt))
  have up : ∀ (h' : Heap), (∀ b o', b ∉ [s₁.heap.objs.size] → (s₁.heap.push o).get? b = some o' → h'.get? b = some o') → ∀ b o', s₁.heap.get? b = some o' → h'.get? b = some o' :=
    fun h' hk b o' e => hk b o' (fun hb => absurd (Heap.lt_size e) ((List.mem_singleton.mp hb) ▸ Nat.lt_irrefl _)) (Heap.get?_push_of_some _ e)
  have so : ∀ c u, signOf (.str ⟨#[c]⟩ u) = c := fun c u => by simp [signOf]
  refine ⟨s₁.heap.objs.size, [s₁.heap.objs.size], [s₁.heap.objs.size], y.cps.size, SignAt y, St, rfl, W A hh, hsz, hst, ?_, ⟨?_, ?_⟩, ?_⟩
  · intro b hb
    show b < (s₁.heap.push o).objs.size
    rw [Heap.size_push, List.mem_singleton.mp hb]
    exact Nat.lt_succ_self _
  · intro C i v s₃ m₃ E' hP hn hm hk _
    obtain ⟨c, u, _, rfl⟩ := hP
    rw [so]
    exact htests C c u s₃ m₃ E' hn hm (F.keeps (up s₃.heap hk))
  · intro C i v s₃ m₃ E' hP hp hn hm hk _
    obtain ⟨c, u, _, rfl⟩ := hP
    rw [so]
    exact helt C c u s₃ m₃ E' hn hm (F.keeps (up s₃.heap hk))
  · intro D h' tk ys vs hnew hlD hplD hlen hP hF hk
    obtain ⟨n, hD⟩ := hplD
    have hnew' : s₁.heap.get? D = none := by
      cases e : s₁.heap.get? D with
      | none => rfl
      | some o' => rw [Heap.get?_push_of_some _ e] at hnew; cases hnew
    refine hQ D ys.toList n h' tk (F.keeps (up h' hk)) (fun q hq => ?_) (fun q hq e => ?_) (paired_signs (p := fun v => pz (signOf v)) (F := fun v r => G (signOf v) r) (fun c u => by rw [so]) (fun c u r hr => by rw [so] at hr; exact hr) (by rw [hlen]; simp) (fun j v hv => ?_) hF)
    · rcases List.mem_cons.mp hq with rfl | hq
      · refine ⟨by simpa using hD, ?_, ?_⟩
        · intro e
          have e' : D = L := e
          obtain ⟨oL, _, _, hoL, _⟩ := F.ns
          rw [e', hoL] at hnew'; cases hnew'
        · show h₀.get? D = none
          cases e : h₀.get? D with
          | none => rfl
          | some o' => rw [F.keep _ _ e] at hnew'; cases hnew'
      · exact ⟨up h' hk _ _ (N q hq).1, (N q hq).2⟩
    · have := (N q hq).1; rw [e, hnew'] at this; cases this
    · obtain ⟨c, u, hc, rfl⟩ := hP j v hv
      exact ⟨c, u, by simpa using hc, rfl⟩
theorem paired_ints {cs : List Nat} {ys : List Value} (h : Paired (fun c r => ∃ t, r = Value.int (c : Nat) t) cs ys) : IntsAre ys (cs.map fun c => ((c : Nat) : Int)) := by
  induction h with
  | nil => exact .nil
  | cons h1 _ ih => obtain ⟨t, rfl⟩ := h1; exact .cons _ t ih
/-- [ord(sign) for sign in name] -/
theorem ords_comp {x src : Str} {px p1 p2 p3 p4 : Pos} {scope : Scope} {pos : Pos} {y : Str} {ty : Tok} {C₁ : Addr} {m₁ : Str → Option Value} {Q : Value → Shared → Prop} 
    (hh : A.handled = none) (F : Fr h₀ L s.heap m) (N : News h₀ L s.heap news) (T : Top p loose mean mg mb h₀) (hg : env.globals = mainGlobals) (hb : env.builtins = builtinsNs)
    (hek : env.scope.kind = .function) (hes : env.kindOf src = some .local) (hsd : (src == ("__debug__" : Str)) = false) (hLe : env.locals = C₁) (hn₁ : s.heap.Ns C₁ m₁) (hms : m₁ src = some (.str y ty))
    (hog : mg (Str.ofString "ord") = none) (hob : mb (Str.ofString "ord") = some (.builtin "ord"))
    (hfree : ∀ y ∈ scope.names, y.2 ≠ .free) (hcell : ∀ y ∈ scope.names, y.2 ≠ .cell) (hkind : scope.kind = .function)
    (hnames : ∀ y ∈ scope.names, y.2 = .local → scope.names.lookup y.1 = some .local) (hx : scope.names.lookup x = some .local) (hxd : (x == ("__debug__" : Str)) = false) (hxo : scope.names.lookup (Str.ofString "ord") = some .globalImplicit)
    (hz : y.length ≤ 1000)
    (hQ : ∀ D (ys : List Value) n h' tk, Fr h₀ L h' m → News h₀ L h' ((D, listOf ys.toArray n) :: news) → (∀ q ∈ news, q.1 ≠ D) → IntsAre ys (y.cps.toList.map fun c => ((c : Nat) : Int)) → Q (.ref D) { s with heap := h', toks := tk })
    (hs : ∀ x, foldedSetIterable (.Name src p1) env x = pure x := by intro _; rfl) :
    wpAny (model prog w) A (eval (.ListComp (.Call (.Name (Str.ofString "ord") p2) [.Name x p3] [] p4) [⟨.Name x px, .Name src p1, [], 0⟩] scope pos) env) Q E s := by
  refine signs_comp (h₀ := h₀) (L := L) (m := m) (news := news) (fun _ => true) (fun c r => ∃ t, r = Value.int (c : Nat) t) hh hfree hcell hkind hnames hx ?_ hs
  refine wpAny_Name (wpAny_loadName_local hek hes (hLe ▸ hn₁) hms ?_) hsd
  refine ⟨y, ty, rfl, by rw [sizeLine_eq]; omega, F, N, ?_, ?_, ?_⟩
  · intro C c u s₂ m₂ E' hn hm F₂
    exact wpAny_of_eq (rfl : (forIn ([] : List Expr) true fun c r => if r = true then do let ok ← isTrue c (compEnv scope C env) (eval c (compEnv scope C env)); pure (ForInStep.yield ok) else pure (ForInStep.yield r)) = pure true) ⟨rfl, ⟨_, _, rfl, fun _ _ e => e⟩⟩
  · intro C c u s₂ m₂ E' hn hm F₂
    refine wpAny_Call_NameR (Calls.Name_function_global (by exact hkind) hxo (Calls.loadGlobal_builtin (show Heap.Ns _ env.globals mg from hg ▸ (T.g.keeps F₂.keep)) hog (show Heap.Ns _ env.builtins mb from hb ▸ (T.b.keeps F₂.keep)) hob ?_) (by decide))
    rw [show backTo p4 (starEach [.Name x p3] (compEnv scope C env)) = [(false, eval (.Name x p3) (compEnv scope C env))] from rfl]
    refine PySem.callWith_builtin1 (wpAny_Name (wpAny_loadName_local (by exact hkind) hx hn hm ?_) hxd)
    exact PySem.P.ord_of_char ⟨⟨_, rfl⟩, ⟨_, _, rfl, fun _ _ e => e⟩⟩
  · intro D ys n h' tk F' N' off hP
    rw [List.filter_eq_self.mpr (by simp)] at hP
    exact hQ D ys n h' tk F' N' off (paired_ints hP)
theorem paired_length {α β : Type} {F : α → β → Prop} {xs : List α} {ys : List β} (h : Paired F xs ys) : xs.length = ys.length := by
  induction h with
  | nil => rfl
  | cons _ _ ih => simp [ih]
/-- [sign for sign in text + rest if ord(sign) > 127] -/
theorem beyond_comp {x ta tb : Str} {px p1 p2 p3 p4 p5 p6 p7 p8 p9 : Pos} {kk : Nat} {scope : Scope} {pos : Pos} {y z : Str} {ty tz : Tok} {Q : Value → Shared → Prop} 
    (hh : A.handled = none) (F : Fr h₀ L s.heap m) (N : News h₀ L s.heap news) (T : Top p loose mean mg mb h₀) (hg : env.globals = mainGlobals) (hb : env.builtins = builtinsNs)
    (hek : env.scope.kind = .function) (hes : env.kindOf ta = some .local) (hsd : (ta == ("__debug__" : Str)) = false) (het : env.kindOf tb = some .local) (htd : (tb == ("__debug__" : Str)) = false) (hLe : env.locals = L) (hms : m ta = some (.str y ty)) (hmt : m tb = some (.str z tz))
    (hog : mg (Str.ofString "ord") = none) (hob : mb (Str.ofString "ord") = some (.builtin "ord"))
    (hfree : ∀ y ∈ scope.names, y.2 ≠ .free) (hcell : ∀ y ∈ scope.names, y.2 ≠ .cell) (hkind : scope.kind = .function)
    (hnames : ∀ y ∈ scope.names, y.2 = .local → scope.names.lookup y.1 = some .local) (hx : scope.names.lookup x = some .local) (hxd : (x == ("__debug__" : Str)) = false) (hxo : scope.names.lookup (Str.ofString "ord") = some .globalImplicit)
    (hz : y.length + z.length ≤ 1000)
    (hQ : ∀ D (ys : List Value) n h' tk, Fr h₀ L h' m → News h₀ L h' ((D, listOf ys.toArray n) :: news) → (∀ q ∈ news, q.1 ≠ D) → (ys = [] ↔ Ascii (y ++ z)) → ys.length ≤ 1000 → Q (.ref D) { s with heap := h', toks := tk })
    (hs : ∀ x, foldedSetIterable (.BinOp (.Name ta p1) .Add (.Name tb p2) p3) env x = pure x := by intro _; rfl) :
    wpAny (model prog w) A (eval (.ListComp (.Name x p4) [⟨.Name x px, .BinOp (.Name ta p1) .Add (.Name tb p2) p3, [.Compare (.Call (.Name (Str.ofString "ord") p5) [.Name x p6] [] p7) [.Gt] [.Constant (.int 127) kk p8] p9], 0⟩] scope pos) env) Q E s := by
  refine signs_comp (h₀ := h₀) (L := L) (m := m) (news := news) (fun c => decide (c > 127)) (fun c r => ∃ t, r = Value.str ⟨#[c]⟩ t) hh hfree hcell hkind hnames hx ?_ hs
  refine wpAny_BinOp (wpAny_Name (wpAny_loadName_local hek hes (hLe ▸ F.ns) hms (wpAny_Name (wpAny_loadName_local hek het (hLe ▸ F.ns) hmt ?_) htd)) hsd)
  refine PyProof.Rows.add_str (fun t' tk => ?_) (by rw [sizeLine_eq]; omega)
  have hl : (y ++ z).length = y.length + z.length := Str.length_append y z
  refine ⟨y ++ z, t', rfl, by rw [sizeLine_eq, hl]; omega, F, N, ?_, ?_, ?_⟩
  · intro C c u s₂ m₂ E' hn hm F₂
    rw [List.forIn_cons]
    simp only [if_true]
    refine wpAny_bind (wpAny_bind (wpAny_isTrue_Compare1 ?_))
    refine wpAny_Call_NameR (Calls.Name_function_global (by exact hkind) hxo (Calls.loadGlobal_builtin (show Heap.Ns _ env.globals mg from hg ▸ (T.g.keeps F₂.keep)) hog (show Heap.Ns _ env.builtins mb from hb ▸ (T.b.keeps F₂.keep)) hob ?_) (by decide))
    rw [show backTo p7 (starEach [.Name x p6] (compEnv scope C env)) = [(false, eval (.Name x p6) (compEnv scope C env))] from rfl]
    refine PySem.callWith_builtin1 (wpAny_Name (wpAny_loadName_local (by exact hkind) hx hn hm ?_) hxd)
    refine PySem.P.ord_of_char (wpAny_Constant_int ?_)
    refine PyProof.Rows.gt_int (wpAny_truthy_bool (wpAny_pure ?_))
    have e : decide ((127 : Int) < (c : Int)) = decide (c > 127) := by rw [Bool.eq_iff_iff]; simp; omega
    exact wpAny_pure ⟨e, ⟨_, _, rfl, fun _ _ e => e⟩⟩
  · intro C c u s₂ m₂ E' hn hm F₂
    exact wpAny_Name (wpAny_loadName_local (by exact hkind) hx hn hm ⟨⟨u, rfl⟩, ⟨_, _, rfl, fun _ _ e => e⟩⟩) hxd
  · intro D ys n h' tk F' N' off hP
    have hlen := paired_length hP
    refine hQ D ys n h' tk F' N' off ⟨fun e => ?_, fun ha => ?_⟩ ?_
    · subst e
      intro c hc
      have : (y ++ z).cps.toList.filter (fun c => decide (c > 127)) = [] := List.eq_nil_of_length_eq_zero hlen
      rw [List.filter_eq_nil_iff] at this
      have := this c (by simpa using hc)
      simp at this; omega
    · have : (y ++ z).cps.toList.filter (fun c => decide (c > 127)) = [] := by
        rw [List.filter_eq_nil_iff]
        intro c hc
        have := ha c (by simpa using hc)
        simp; omega
      rw [this] at hlen
      exact List.eq_nil_of_length_eq_zero hlen.symm
    · rw [← hlen]
      have h1 := List.length_filter_le (fun c => decide (c > 127)) (y ++ z).cps.toList
      have h2 : (y ++ z).cps.toList.length = (y ++ z).length := by simp [Str.length]
      omega
end
end Mine
end
section
open PySem PySem.W PyProof.Rows PySem.Calls
set_option maxRecDepth 100000
set_option maxHeartbeats 1000000
namespace Mine
open PyProof.Rows.LCg (NsObj ns_obj lst CompRest CompEnd Off3 Off1 CompSrc FinE)
theorem ords_enc (y : Str) : ((y.cps.toList.map fun c => ((c : Nat) : Int)).map fun n => n.toNat.toUInt8).toArray = encB y := by
  unfold encB
  apply Array.toList_inj.mp
  simp
section
variable {prog : Program} {w : World} {A : Around} {E : Value → Shared → Prop} {s : Shared} {h₀ : Heap} {L : Addr} {m mg mb : Str → Option Value} {news : List (Addr × Obj)} {env : Env} {K : Frag} {p : Program} {loose : List Str} {mean : ExcName → Option Value}
def octs (xs : List Str) : List (Tx × Tx) := xs.map fun x => (Tx.b #[47], Tx.b (encB x))
theorem octs_snoc {xs : List Str} {i : Nat} {x : Str} (h : xs[i]? = some x) : octs (xs.take (i + 1)) = octs (xs.take i) ++ [(.b #[47], .b (encB x))] := by
  unfold octs; rw [List.take_add_one, h]; simp
theorem wpAny_Constant_bytes {x : List UInt8} {k pos} {Q : Value → Shared → Prop} (h : Q (.bytes x.toArray s.toks) { s with toks := s.toks + 1 }) : wpAny (model prog w) A (eval (.Constant (.bytes x) k pos) env) Q E s := fun _ _ _ => h
theorem oct_comp {y src x : Str} {px pt p1 p2 p3 p4 p5 p6 p7 p8 p9 pos : Pos} {kk kt : Nat} {l : Addr} {scope scope₂ : Scope} {cl : List (Str × Addr)} {vs : List Value} {xs : List Str} {nn : Nat} {pos₂ : Pos} {Q : Value → Shared → Prop}
    (hh : A.handled = none) (F : Fr h₀ L s.heap m) (N : News h₀ L s.heap news) (T : Top p loose mean mg mb h₀) (hg : env.globals = mainGlobals) (hb : env.builtins = builtinsNs)
    (hek : env.scope.kind = .function) (hes : env.kindOf src = some .local) (hsd : (src == ("__debug__" : Str)) = false) (hLe : env.locals = L) (hms : m src = some (.ref l))
    (hog : mg (Str.ofString "ord") = none) (hob : mb (Str.ofString "ord") = some (.builtin "ord")) (hyg : mg (Str.ofString "bytes") = none) (hyb : mb (Str.ofString "bytes") = some (.type "bytes"))
    (hclos : closureFor scope env = pure cl) (hcell : ∀ y ∈ scope.names, y.2 ≠ .cell) (hkind : scope.kind = .function) (hnames : ∀ y ∈ scope.names, y.2 = .local → scope.names.lookup y.1 = some .local) (hx : scope.names.lookup y = some .local) (hyd : (y == ("__debug__" : Str)) = false) (hxb : (relabel scope env).names.lookup (Str.ofString "bytes") = some .globalImplicit)
    (hfree₂ : ∀ y ∈ scope₂.names, y.2 ≠ .free) (hcell₂ : ∀ y ∈ scope₂.names, y.2 ≠ .cell) (hkind₂ : scope₂.kind = .function)
    (hnames₂ : ∀ y ∈ scope₂.names, y.2 = .local → scope₂.names.lookup y.1 = some .local) (hx₂ : scope₂.names.lookup x = some .local) (hxd₂ : (x == ("__debug__" : Str)) = false) (hxo₂ : scope₂.names.lookup (Str.ofString "ord") = some .globalImplicit)
    (hl : (l, listOf vs.toArray nn) ∈ news) (hi : StrsAre vs xs) (hz : vs.length ≤ 1000) (hsh : ∀ x ∈ xs, x.length ≤ 1000) (hA : ∀ x ∈ xs, Ascii x)
    (hQ : ∀ ys tl D h tk, Pairs (tl ++ news) ys (octs xs) → Fr h₀ L h m → News h₀ L h ((D, lst ys) :: (tl ++ news)) → Off1 D (tl ++ news) → Q (.ref D) { s with heap := h, toks := tk })
    (hs : ∀ x, foldedSetIterable (.Name src p2) env x = pure x := by intro _; rfl) :
    wpAny (model prog w) A (eval (.ListComp (.Tuple [.Constant (.bytes [47]) kk p3, .Call (.Name (Str.ofString "bytes") p4) [.ListComp (.Call (.Name (Str.ofString "ord") p5) [.Name x p6] [] p7) [⟨.Name x px, .Name y p8, [], 0⟩] scope₂ pos₂] [] p9] kt pt)
      [⟨.Name y p1, .Name src p2, [], 0⟩] scope pos) env) Q E s := by
  have hlen := strs_len hi
  refine LCg.ListComp_U F hclos hcell hkind hnames hx ?_ hs
  refine wpAny_Name (wpAny_loadName_local hek hes (hLe ▸ F.ns) hms ?_) hsd
  refine LCg.CompSrc.ledger hh F N hl (by rw [List.size_toArray, sizeLine_eq]; omega) fun g => ?_
  refine rest_of (J := fun i ys nw => ∃ tl, nw = tl ++ news ∧ Pairs (tl ++ news) ys (octs (xs.take i))) ?_ ?_ _ 0 [] news (Nat.zero_add _) rfl ⟨[], rfl, .nil⟩
  · rintro i ys nw v I oI C oC D m₂ h tk hi8 hyl ⟨tl, rfl, hJ⟩ hP hNC hmk F₂ N₂ off E'
    have hC : ∀ {h : Heap} {nw : List (Addr × Obj)}, News h₀ L h ((I, oI) :: (C, oC) :: nw) → h.Ns C m₂ := fun N => hNC.ns (N (C, oC) (List.mem_cons_of_mem _ List.mem_cons_self)).1
    obtain ⟨z, t, rfl, hxi⟩ := strs_get hi (by simpa using hP)
    have hz1 := hsh z (List.mem_of_getElem? hxi)
    have hzA := hA z (List.mem_of_getElem? hxi)
    have hcg : (compEnvC scope cl C env).globals = mainGlobals := hg
    have hcb : (compEnvC scope cl C env).builtins = builtinsNs := hb
    refine wpAny_Tuple ?_
    rw [show backTo pt (starEach [.Constant (.bytes [47]) kk p3, .Call (.Name (Str.ofString "bytes") p4) [.ListComp (.Call (.Name (Str.ofString "ord") p5) [.Name x p6] [] p7) [⟨.Name x px, .Name y p8, [], 0⟩] scope₂ pos₂] [] p9] (compEnvC scope cl C env)) =
      [(false, eval (.Constant (.bytes [47]) kk p3) (compEnvC scope cl C env)), (false, eval (.Call (.Name (Str.ofString "bytes") p4) [.ListComp (.Call (.Name (Str.ofString "ord") p5) [.Name x p6] [] p7) [⟨.Name x px, .Name y p8, [], 0⟩] scope₂ pos₂] [] p9) (compEnvC scope cl C env))] from rfl]
    refine Calls.spliced_cons (wpAny_Constant_bytes ?_)
    refine Calls.spliced_cons (wpAny_Call_NameR (Calls.Name_function_global (by exact hkind) hxb (Calls.loadGlobal_builtin (show Heap.Ns _ (compEnvC scope cl C env).globals mg from hcg ▸ (T.g.keeps F₂.keep)) hyg (show Heap.Ns _ (compEnvC scope cl C env).builtins mb from hcb ▸ (T.b.keeps F₂.keep)) hyb ?_) (by decide)))
    rw [show backTo p9 (starEach [.ListComp (.Call (.Name (Str.ofString "ord") p5) [.Name x p6] [] p7) [⟨.Name x px, .Name y p8, [], 0⟩] scope₂ pos₂] (compEnvC scope cl C env)) = [(false, eval (.ListComp (.Call (.Name (Str.ofString "ord") p5) [.Name x p6] [] p7) [⟨.Name x px, .Name y p8, [], 0⟩] scope₂ pos₂) (compEnvC scope cl C env))] from rfl]
    refine PySem.callWith_type1 ?_
    refine ords_comp (C₁ := C) (m₁ := m₂) (y := z) (ty := t) hh F₂ N₂ T hcg hcb (by exact hkind) (lookup_relabel_local hx) hyd rfl (hC N₂) hmk hog hob hfree₂ hcell₂ hkind₂ hnames₂ hx₂ hxd₂ hxo₂ hz1 fun D₂ zs n₂ h₃ tk₃ F₃ N₃ off₃ hI₃ => ?_
    refine bytes_K F₃ N₃ ⟨_, (N₃ _ (.head _)).1, rfl, _, rfl⟩ hI₃ (fun n hn => ?_) (by have e1 : z.cps.toList.length = z.length := (by simp [Str.length]); rw [hI₃.length, List.length_map, sizeLine_eq]; omega) hh fun h₄ t₄ tk₄ F₄ N₄ _ => ?_
    · obtain ⟨c, hc, rfl⟩ := List.mem_map.mp hn
      have := hzA c (by simpa using hc)
      omega
    · rw [ords_enc]
      refine Calls.spliced_nil ⟨by simp [sizeLine_eq], ?_⟩
      have N₅ := News.push F₄ (led_tail N₄) (tupObj [.bytes #[47] tk, .bytes (encB z) t₄])
      have fresh : ∀ q ∈ (I, oI) :: (C, oC) :: (D, lst ys) :: (tl ++ news), h₄.objs.size ≠ q.1 := fun q hq => Nat.ne_of_gt (Heap.lt_size (N₄ q (.tail _ hq)).1)
      refine ⟨_, _, (h₄.objs.size, tupObj [.bytes #[47] tk, .bytes (encB z) t₄]) :: (tl ++ news), rfl, F₄.push _, fun q hq => N₅ q ?_, ⟨⟨fresh (I, oI) (by simp), fresh (C, oC) (by simp), fresh (D, lst ys) (by simp)⟩, off⟩, .inr ⟨_, .tail _ (List.mem_append.mpr (.inr hl)), rfl, _, rfl⟩, (h₄.objs.size, tupObj [.bytes #[47] tk, .bytes (encB z) t₄]) :: tl, rfl, ?_⟩
      · simp only [List.mem_cons, List.mem_append] at hq ⊢
        rcases hq with h1 | h1 | h1 | h1 | h1 | h1 <;> simp [h1]
      · rw [octs_snoc hxi]
        exact Pairs.snoc (hJ.mono fun q hq => .tail _ hq) (.head _) (.b _ _) (.b _ _)
  · rintro ys nw hyl ⟨tl, rfl, hJ⟩ D h tk F₂ N₂ off
    rw [List.size_toArray, hlen, List.take_length] at hJ
    exact hQ ys tl D h tk hJ F₂ N₂ off
theorem walks_acc (hh : A.handled = none) (I ax : Addr) (hne : ax ≠ I) (items : Array Value) :
    Walks prog w A I [I, ax] [I] items.size (fun i v => items[i]? = some v) (fun i h => h.IsListIter I ax i ∧ SeqAt h ax items) where
  sub := fun b hb => by simp at hb; simp [hb]
  frame := fun _ _ _ st hk => ⟨st.1.at fun o e => hk I (by simp) o e, st.2.keep fun o e => hk ax (by simp) o e⟩
  item := fun i s Q E hi st hQ => by
    refine next_item st.1 st.2 (x := items[i]) (by simp [hi]) fun h' hit' hs' => ?_
    exact hQ _ h' s.toks (by simp [hi]) ⟨hit', st.2.keep fun o e => hs'.extBut _ o hne e⟩ fun b o hb e => hs'.extBut b o (fun h => hb (by simp [h])) e
  done := fun s Q E st hQ => next_end_hv (H := .no) hh trivial (by simp [Hv.addrs]) st.1 st.2 (by simp) fun h' he' => hQ h' s.toks fun b o hb e => he' b o (fun h => hb (by simp [h])) e
  self := fun _ _ _ _ st hQ => wpAny_pyIter_listiter st.1 hQ
theorem paired_same {xs ys : List Value} (h : Paired (fun v y => y = v) xs ys) : ys = xs := by
  induction h with
  | nil => rfl
  | cons h1 _ ih => rw [h1, ih]
/-- [pair for pair in way] -/
theorem pair_comp {y : Str} {p1 p2 pos : Pos} {iter : Expr} {x dx : Addr} {its : List Value} {n : Nat} {scope : Scope} {Q : Value → Shared → Prop}
    (hh : A.handled = none) (F : Fr h₀ L s.heap m) (X : K.In h₀) (N : News h₀ L s.heap news) (hov : listOver K 101 = true) (hf : findIn K (.ref 101) "__iter__" = some (some (.builtin "list.__iter__")))
    (hx : (x, accObj dx its.toArray n) ∈ news) (hz : its.length ≤ 1000) (hiter : wpAny (model prog w) A (eval iter env) (fun v s₁ => v = .ref x ∧ s₁ = s) E s)
    (hfree : ∀ y ∈ scope.names, y.2 ≠ .free) (hcell : ∀ y ∈ scope.names, y.2 ≠ .cell) (hkind : scope.kind = .function)
    (hnames : ∀ y ∈ scope.names, y.2 = .local → scope.names.lookup y.1 = some .local) (hxy : scope.names.lookup y = some .local) (hyd : (y == ("__debug__" : Str)) = false)
    (hQ : ∀ D n h' tk, Fr h₀ L h' m → News h₀ L h' ((D, listOf its.toArray n) :: news) → (∀ q ∈ news, q.1 ≠ D) → Q (.ref D) { s with heap := h', toks := tk })
    (hs : ∀ x, foldedSetIterable iter env x = pure x := by intro _; rfl) :
    wpAny (model prog w) A (eval (.ListComp (.Name y p1) [⟨.Name y p2, iter, [], 0⟩] scope pos) env) Q E s := by
  refine wpAny_ListComp_walk (fun _ => true) (fun v y => y = v) hfree hcell hkind hnames hxy (wpAny_mono hiter (fun xv s₁ h₁ => ?_) fun _ _ e => e) hs
  obtain ⟨rfl, rfl⟩ := h₁
  have hxs : x < s₁.heap.objs.size := Heap.lt_size (N _ hx).1
  refine iter_acc (X.keeps F.keep) hov hf (N _ hx).1 ?_
  have up : ∀ (h' : Heap), (∀ b o', b ∉ [s₁.heap.objs.size] → (s₁.heap.push { cls := .type "list_iterator", data := .fields #[.ref x, .int 0 0] }).get? b = some o' → h'.get? b = some o') → ∀ b o', s₁.heap.get? b = some o' → h'.get? b = some o' :=
    fun h' hk b o' e => hk b o' (fun hb => absurd (Heap.lt_size e) ((List.mem_singleton.mp hb) ▸ Nat.lt_irrefl _)) (Heap.get?_push_of_some _ e)
  refine ⟨s₁.heap.objs.size, _, _, _, _, _, rfl, walks_acc hh s₁.heap.objs.size x (Nat.ne_of_lt hxs) its.toArray, by rw [List.size_toArray, sizeLine_eq]; omega, ⟨⟨_, Heap.get?_push_size _ rfl, rfl, rfl⟩, _, _, Heap.get?_push_of_some _ (N _ hx).1, rfl⟩, ?_, ⟨?_, ?_⟩, ?_⟩
  · intro b hb
    show b < (s₁.heap.push _).objs.size
    rw [Heap.size_push]
    rcases List.mem_cons.mp hb with rfl | hb
    · exact Nat.lt_succ_self _
    · rw [List.mem_singleton.mp hb]; exact Nat.lt_succ_of_lt hxs
  · intro C i v s₃ m₃ E' hP hn hm hk _
    exact wpAny_of_eq (rfl : (forIn ([] : List Expr) true fun c r => if r = true then do let ok ← isTrue c (compEnv scope C env) (eval c (compEnv scope C env)); pure (ForInStep.yield ok) else pure (ForInStep.yield r)) = pure true) ⟨rfl, ⟨_, _, rfl, fun _ _ e => e⟩⟩
  · intro C i v s₃ m₃ E' hP hp hn hm hk _
    exact wpAny_Name (wpAny_loadName_local (by exact hkind) hxy hn hm ⟨rfl, ⟨_, _, rfl, fun _ _ e => e⟩⟩) hyd
  · intro D h' tk ys vs hnew hlD hplD hlen hP hF hk
    obtain ⟨k, hD⟩ := hplD
    have hnew' : s₁.heap.get? D = none := by
      cases e : s₁.heap.get? D with
      | none => rfl
      | some o' => rw [Heap.get?_push_of_some _ e] at hnew; cases hnew
    rw [List.filter_eq_self.mpr (by simp)] at hF
    have hys := paired_same hF
    have hvs : vs = its := by
      apply List.ext_getElem?
      intro j
      cases e : vs[j]? with
      | some v => have := hP j v e; simpa using this.symm
      | none =>
        rw [List.getElem?_eq_none_iff] at e
        rw [List.getElem?_eq_none (by rw [hlen] at e; simpa using e)]
    have hysA : ys = its.toArray := Array.toList_inj.mp (by rw [hys, hvs])
    subst hysA
    refine hQ D k h' tk (F.keeps (up h' hk)) (fun q hq => ?_) (fun q hq e => ?_)
    · rcases List.mem_cons.mp hq with rfl | hq
      · refine ⟨hD, ?_, ?_⟩
        · intro e
          have e' : D = L := e
          obtain ⟨oL, _, _, hoL, _⟩ := F.ns
          rw [e', hoL] at hnew'; cases hnew'
        · show h₀.get? D = none
          cases e : h₀.get? D with
          | none => rfl
          | some o' => rw [F.keep _ _ e] at hnew'; cases hnew'
      · exact ⟨up h' hk _ _ (N q hq).1, (N q hq).2⟩
    · have := (N q hq).1; rw [e, hnew'] at this; cases this
end
end Mine
end
section
open PySem PySem.W PyProof.Rows PySem.Calls
set_option maxRecDepth 100000
set_option maxHeartbeats 1000000
namespace Mine
abbrev sDD : Str := Str.ofString ".."
abbrev sD : Str := Str.ofString "."
abbrev sE : Str := Str.ofString ""
def fwdStep (ns : List Str) (p : Str) : List Str := if p = sDD then ns.dropLast else if p = sD ∨ p = sE then ns else ns ++ [p]
def fwd (ns : List Str) (xs : List Str) : List Str := xs.foldl fwdStep ns
def names (xs : List Str) : List Str := (keptAll xs).1
theorem take_dropLast {f : List Str} {d : Nat} : f.dropLast.take (f.dropLast.length - d) = f.take (f.length - (d + 1)) := by
  rw [List.length_dropLast, List.dropLast_eq_take, List.take_take, Nat.sub_sub, Nat.add_comm 1 d, Nat.min_eq_left (Nat.sub_le_sub_left (Nat.le_add_left 1 d) _)]
theorem take_snoc {f : List Str} {p : Str} {d : Nat} (h : 0 < d) : (f ++ [p]).take ((f ++ [p]).length - d) = f.take (f.length - (d - 1)) := by
  obtain ⟨e, rfl⟩ : ∃ e, d = e + 1 := ⟨d - 1, (Nat.succ_pred_eq_of_pos h).symm⟩
  rw [List.length_append, List.length_singleton, Nat.add_sub_add_right, List.take_append_of_le_length (Nat.sub_le _ _), Nat.add_sub_cancel]
theorem kept_fwd : ∀ (ys : List Str) (d : Nat) (ns : List Str), (ys.foldl keptStep (ns, d)).1 = (fwd [] ys.reverse).take ((fwd [] ys.reverse).length - d) ++ ns
  | [], d, ns => by simp [fwd]
  | p :: ys, d, ns => by
    have hr : fwd [] (p :: ys).reverse = fwdStep (fwd [] ys.reverse) p := by
      unfold fwd; rw [List.reverse_cons, List.foldl_append]; rfl
    rw [List.foldl_cons, hr]
    have ih := fun d ns => kept_fwd ys d ns
    generalize fwd [] ys.reverse = f at ih ⊢
    rw [show keptStep (ns, d) p = (if p = sDD then (ns, d + 1) else if p = sD ∨ p = sE then (ns, d) else if 0 < d then (ns, d - 1) else (p :: ns, d)) from rfl]
    unfold fwdStep
    by_cases h1 : p = sDD
    · rw [if_pos h1, if_pos h1, ih, take_dropLast]
    · rw [if_neg h1, if_neg h1]
      by_cases h2 : p = sD ∨ p = sE
      · rw [if_pos h2, if_pos h2, ih]
      · rw [if_neg h2, if_neg h2]
        by_cases h3 : 0 < d
        · rw [if_pos h3, ih, take_snoc h3]
        · obtain rfl : d = 0 := Nat.eq_zero_of_not_pos h3
          rw [if_neg h3, ih]
          rw [Nat.sub_zero, Nat.sub_zero, List.take_length, List.take_length]
          simp
theorem names_fwd (xs : List Str) : names xs = fwd [] xs := by
  unfold names keptAll
  rw [kept_fwd]
  simp
theorem fwd_app (ns xs ys : List Str) : fwd ns (xs ++ ys) = fwd (fwd ns xs) ys := by unfold fwd; rw [List.foldl_append]
theorem fwd_mem {xs : List Str} : ∀ {ns : List Str} {x : Str}, x ∈ fwd ns xs → x ∈ ns ∨ x ∈ xs := by
  induction xs with
  | nil => intro ns x h; exact .inl h
  | cons p xs ih =>
    intro ns x h
    have h : x ∈ fwd (fwdStep ns p) xs := h
    rcases ih h with h | h
    · unfold fwdStep at h
      split at h
      · exact .inl (List.dropLast_subset _ h)
      · split at h
        · exact .inl h
        · rcases List.mem_append.mp h with h | h
          · exact .inl h
          · exact .inr (by rw [List.mem_singleton.mp h]; exact .head _)
    · exact .inr (.tail _ h)
theorem names_mem {xs : List Str} {x : Str} (h : x ∈ names xs) : x ∈ xs := by
  rw [names_fwd] at h
  rcases fwd_mem h with h | h
  · cases h
  · exact h
theorem fwd_len {xs : List Str} : ∀ {ns : List Str}, (fwd ns xs).length ≤ ns.length + xs.length := by
  induction xs with
  | nil => intro ns; simp [fwd]
  | cons p xs ih =>
    intro ns
    have h : fwd ns (p :: xs) = fwd (fwdStep ns p) xs := rfl
    have h2 : (fwdStep ns p).length ≤ ns.length + 1 := by
      unfold fwdStep
      (repeat' split) <;> simp <;> omega
    have := ih (ns := fwdStep ns p)
    rw [h, List.length_cons]; omega
theorem names_len (xs : List Str) : (names xs).length ≤ xs.length := by
  rw [names_fwd]; have := fwd_len (xs := xs) (ns := []); simpa using this
abbrev sPair (x : Str) : Tx × Tx := (.s slash, .s x)
theorem walk_fwd (xs : List Str) : ∀ ns : List Str, walkAll (.s slash) (.s sDD) [.s sE, .s sD] (ns.map sPair) (xs.map .s) = (fwd ns xs).map sPair := by
  induction xs with
  | nil => intro ns; rfl
  | cons p xs ih =>
    intro ns
    have e : walkStep (.s slash) (.s sDD) [.s sE, .s sD] (ns.map sPair) (.s p) = (fwdStep ns p).map sPair := by
      unfold walkStep fwdStep
      by_cases h1 : p = sDD
      · rw [if_pos (by rw [h1]), if_pos h1, List.map_dropLast]
      · rw [if_neg (by simpa using h1), if_neg h1]
        by_cases h2 : p = sD ∨ p = sE
        · rw [if_pos (by rcases h2 with h2 | h2 <;> simp [h2]), if_pos h2]
        · rw [if_neg (by simp; exact ⟨fun h => h2 (.inr h), fun h => h2 (.inl h)⟩), if_neg h2]
          simp
    show walkAll _ _ _ (walkStep _ _ _ (ns.map sPair) (.s p)) (xs.map .s) = _
    rw [e]
    exact ih (fwdStep ns p)
theorem walk_names (xs : List Str) : walkAll (.s slash) (.s sDD) [.s sE, .s sD] [] (xs.map .s) = (names xs).map sPair := by
  rw [names_fwd]; exact walk_fwd xs []
/-- octets of ASCII texts -/
theorem encB_inj {x y : Str} (hx : Ascii x) (hy : Ascii y) (h : encB x = encB y) : x = y := by
  have hl : x.cps.size = y.cps.size := by have := congrArg Array.size h; simpa [encB] using this
  have : x.cps = y.cps := by
    apply Array.ext hl
    intro i h1 h2
    have e : (encB x)[i]? = (encB y)[i]? := by rw [h]
    simp [encB, h1, h2] at e
    have a := hx x.cps[i] (by simp)
    have b := hy y.cps[i] (by simp)
    have e' := congrArg UInt8.toNat e
    simp at e'
    omega
  cases x; cases y; simp at this; rw [this]
theorem asc_DD : Ascii sDD := by intro c hc; revert c; decide +kernel
theorem asc_D : Ascii sD := by intro c hc; revert c; decide +kernel
theorem asc_E : Ascii sE := by intro c hc; revert c; decide +kernel
theorem asc_slash : Ascii slash := by intro c hc; revert c; decide +kernel
theorem enc_DD : encB sDD = #[46, 46] := by decide +kernel
theorem enc_D : encB sD = #[46] := by decide +kernel
theorem enc_E : encB sE = #[] := by decide +kernel
theorem enc_slash : encB slash = #[47] := by decide +kernel
theorem walk_octs (xs : List Str) (hA : ∀ x ∈ xs, Ascii x) : ∀ ns : List Str, walkAll (.b #[47]) (.b #[46, 46]) [.b #[], .b #[46]] (octs ns) (xs.map fun x => .b (encB x)) = octs (fwd ns xs) := by
  induction xs with
  | nil => intro ns; rfl
  | cons p xs ih =>
    intro ns
    have hp := hA p (.head _)
    have iff1 : (Tx.b (encB p) = .b #[46, 46]) ↔ p = sDD := ⟨fun h => encB_inj hp asc_DD (by rw [enc_DD]; exact Tx.b.inj h), fun h => by rw [h, enc_DD]⟩
    have iff2 : (Tx.b (encB p) = .b #[46]) ↔ p = sD := ⟨fun h => encB_inj hp asc_D (by rw [enc_D]; exact Tx.b.inj h), fun h => by rw [h, enc_D]⟩
    have iff3 : (Tx.b (encB p) = .b #[]) ↔ p = sE := ⟨fun h => encB_inj hp asc_E (by rw [enc_E]; exact Tx.b.inj h), fun h => by rw [h, enc_E]⟩
    have e : walkStep (.b #[47]) (.b #[46, 46]) [.b #[], .b #[46]] (octs ns) (.b (encB p)) = octs (fwdStep ns p) := by
      unfold walkStep fwdStep
      by_cases h1 : p = sDD
      · rw [if_pos (iff1.mpr h1), if_pos h1]; unfold octs; rw [List.map_dropLast]
      · rw [if_neg (fun h => h1 (iff1.mp h)), if_neg h1]
        by_cases h2 : p = sD ∨ p = sE
        · rw [if_pos (by rcases h2 with h2 | h2 <;> simp only [List.mem_cons]; exact .inr (.inl (iff2.mpr h2)); exact .inl (iff3.mpr h2)), if_pos h2]
        · rw [if_neg (fun h => by
            simp only [List.mem_cons, List.not_mem_nil, or_false] at h
            rcases h with h | h
            · exact h2 (.inr (iff3.mp h))
            · exact h2 (.inl (iff2.mp h))), if_neg h2]
          unfold octs; simp
    show walkAll _ _ _ (walkStep _ _ _ (octs ns) (.b (encB p))) (xs.map fun x => .b (encB x)) = _
    rw [e]
    exact ih (fun x hx => hA x (.tail _ hx)) (fwdStep ns p)
theorem encP_names (ns : List Str) : encP (ns.map sPair) = octs ns := by
  unfold encP octs
  rw [List.map_map]
  apply List.map_congr_left
  intro x _
  show (Tx.b (encB slash), Tx.b (encB x)) = _
  rw [enc_slash]
theorem octs_len (ns : List Str) : (octs ns).length = ns.length := by unfold octs; simp
/-- what the handing over leaves -/
theorem octs_final {xs : List Str} {i : Nat} {bs : List (Array UInt8)} (hA : ∀ x ∈ xs.drop i, Ascii x) (hb : bs = (if xs.drop i = [] then [#[]] else (xs.drop i).map encB)) :
    walkAll (.b #[47]) (.b #[46, 46]) [.b #[], .b #[46]] (encP ((names (xs.take i)).map sPair)) (bs.map .b) = octs (names xs) := by
  rw [encP_names]
  have e : names xs = fwd (names (xs.take i)) (xs.drop i) := by rw [names_fwd, names_fwd, ← fwd_app, List.take_append_drop]
  rw [e]
  by_cases hd : xs.drop i = []
  · rw [hb, if_pos hd, hd]
    show walkStep (.b #[47]) (.b #[46, 46]) [.b #[], .b #[46]] (octs (names (xs.take i))) (.b #[]) = octs (names (xs.take i))
    unfold walkStep
    rw [if_neg (by simp), if_pos (by simp)]
  · rw [hb, if_neg hd, List.map_map]
    exact walk_octs _ hA _
/-- joins -/
theorem join_cps (sep : Str) : ∀ xs : List Str, (Str.join sep xs).cps.toList = match xs with
    | [] => []
    | x :: r => x.cps.toList ++ (r.map fun y => sep.cps.toList ++ y.cps.toList).flatten
  | [] => rfl
  | [x] => by simp [Str.join]
  | x :: y :: r => by
    have ih := join_cps sep (y :: r)
    show (x ++ sep ++ Str.join sep (y :: r)).cps.toList = _
    simp only [Str.cps_append, Array.toList_append]
    rw [ih]
    simp
theorem txt_join (sep : Str) (xs : List Str) : Txt.join sep xs = Str.join sep xs := StrLaws.glued_eq_join sep xs
theorem join_joinL : ∀ xs : List Str, (Str.join slash xs).cps.toList = joinL 47 (xs.map fun x => x.cps.toList)
  | [] => rfl
  | [x] => rfl
  | x :: y :: r => by
    have ih := join_joinL (y :: r)
    show (x ++ slash ++ Str.join slash (y :: r)).cps.toList = _
    simp only [Str.cps_append, Array.toList_append]
    rw [ih]
    have h47 : slash.cps.toList = [47] := by decide +kernel
    rw [h47, List.map_cons, List.map_cons]
    show _ = x.cps.toList ++ 47 :: joinL 47 (y.cps.toList :: r.map fun x => x.cps.toList)
    simp
/-- a path cut at its slashes -/
theorem split_path {xs : List Str} (h0 : xs ≠ []) (hf : ∀ x ∈ xs, Piece x) : Txt.split (Txt.join slash xs) slash = xs := by
  have hsl : slash = ⟨#[47]⟩ := by decide +kernel
  have h1 := StrLaws.join_split (Txt.join slash xs) slash
  have h2 := StrLaws.split_free (Txt.join slash xs) 47
  rw [← hsl] at h2
  have hne : Txt.split (Txt.join slash xs) slash ≠ [] := by
    unfold Txt.split
    (repeat' split)
    · simp
    · simp
    · rw [StrLaws.partsBetween_eq]
      obtain ⟨p, r, e⟩ := StrLaws.partsFrom_ne (Txt.join slash xs) slash.length 0 (Builtin.Str.occurrences (Txt.join slash xs) slash 0 (Txt.join slash xs).length ((Txt.join slash xs).length + 1))
      rw [e]; simp
  have e1 := join_joinL (Txt.split (Txt.join slash xs) slash)
  rw [h1] at e1
  have e2 := congrArg (fun x : Str => x.cps.toList) (txt_join slash xs)
  rw [e2, join_joinL] at e1
  have := joinL_uniq (c := 47) (by simpa using hne) (by simpa using h0) (by intro p hp; obtain ⟨q, hq, rfl⟩ := List.mem_map.mp hp; exact h2 q hq)
    (by intro p hp; obtain ⟨q, hq, rfl⟩ := List.mem_map.mp hp; have := (hf q hq).1; simpa using this) e1.symm
  refine List.map_inj_right (f := fun x : Str => x.cps.toList) (fun a b e => ?_) |>.mp this
  cases a; cases b; simp at e; rw [e]
theorem joinL_map {α β : Type} (f : α → β) (c : α) : ∀ xs : List (List α), (joinL c xs).map f = joinL (f c) (xs.map (·.map f))
  | [] => rfl
  | [x] => rfl
  | x :: y :: r => by rw [joinL_cons, List.map_append, List.map_cons, joinL_map f c (y :: r)]; rfl
theorem encB_list (x : Str) : (encB x).toList = x.cps.toList.map (·.toUInt8) := by unfold encB; simp
theorem split_rest {xs : List Str} (hf : ∀ x ∈ xs, Piece x) (hA : ∀ x ∈ xs, Ascii x) : splitB (encB (Txt.join slash xs)) = if xs = [] then [#[]] else xs.map encB := by
  by_cases h0 : xs = []
  · rw [if_pos h0, h0]; decide +kernel
  · rw [if_neg h0]
    refine splitB_join (by simpa using h0) (fun p hp => ?_) ?_
    · obtain ⟨x, hx, rfl⟩ := List.mem_map.mp hp
      rw [encB_list]
      intro hm
      obtain ⟨c, hc, e⟩ := List.mem_map.mp hm
      have hc' : c ∈ x.cps := by simpa using hc
      have h1 := hA x hx c hc'
      have e' := congrArg UInt8.toNat e
      simp at e'
      have : c = 47 := by omega
      exact (hf x hx).1 (this ▸ hc')
    · rw [encB_list, txt_join, join_joinL, joinL_map, List.map_map, List.map_map]
      congr 1
      apply List.map_congr_left
      intro x _
      exact (encB_list x).symm
/-- signs of joins -/
theorem mem_join {sep : Str} {xs : List Str} {c : Nat} (h : c ∈ (Txt.join sep xs).cps) : c ∈ sep.cps ∨ ∃ x ∈ xs, c ∈ x.cps := by
  rw [txt_join] at h
  have h' : c ∈ (Str.join sep xs).cps.toList := by simpa using h
  rw [join_cps] at h'
  cases xs with
  | nil => simp at h'
  | cons x r =>
    simp only [List.mem_append, List.mem_flatten, List.mem_map] at h'
    rcases h' with h' | ⟨l, ⟨y, hy, rfl⟩, h'⟩
    · exact .inr ⟨x, .head _, by simpa using h'⟩
    · rcases List.mem_append.mp h' with h' | h'
      · exact .inl (by simpa using h')
      · exact .inr ⟨y, .tail _ hy, by simpa using h'⟩
theorem join_mem {sep : Str} {xs : List Str} {x : Str} {c : Nat} (hx : x ∈ xs) (h : c ∈ x.cps) : c ∈ (Txt.join sep xs).cps := by
  rw [txt_join]
  have : c ∈ (Str.join sep xs).cps.toList := by
    rw [join_cps]
    cases xs with
    | nil => cases hx
    | cons y r =>
      simp only [List.mem_append, List.mem_flatten, List.mem_map]
      rcases List.mem_cons.mp hx with rfl | hx
      · exact .inl (by simpa using h)
      · exact .inr ⟨_, ⟨x, hx, rfl⟩, List.mem_append.mpr (.inr (by simpa using h))⟩
  simpa using this
theorem asc_app {x y : Str} : Ascii (x ++ y) ↔ Ascii x ∧ Ascii y := by
  constructor
  · intro h
    exact ⟨fun c hc => h c (by show c ∈ x.cps ++ y.cps; simp [hc]), fun c hc => h c (by show c ∈ x.cps ++ y.cps; simp [hc])⟩
  · rintro ⟨h1, h2⟩ c hc
    have hc : c ∈ x.cps ++ y.cps := hc
    rcases Array.mem_append.mp hc with hc | hc
    · exact h1 c hc
    · exact h2 c hc
theorem asc_join {sep : Str} {xs : List Str} (hs : Ascii sep) : Ascii (Txt.join sep xs) ↔ ∀ x ∈ xs, Ascii x := by
  constructor
  · intro h x hx c hc; exact h c (join_mem hx hc)
  · intro h c hc
    rcases mem_join hc with hc | ⟨x, hx, hc⟩
    · exact hs c hc
    · exact h x hx c hc
abbrev textOf (ns : List Str) : Str := Txt.join sE (ns.map (slash ++ ·))
theorem asc_text (ns : List Str) : Ascii (textOf ns) ↔ ∀ x ∈ ns, Ascii x := by
  rw [asc_join asc_E]
  constructor
  · intro h x hx; exact (asc_app.mp (h _ (List.mem_map.mpr ⟨x, hx, rfl⟩))).2
  · intro h y hy
    obtain ⟨x, hx, rfl⟩ := List.mem_map.mp hy
    exact asc_app.mpr ⟨asc_slash, h x hx⟩
theorem asc_pairs (ns : List Str) : AsciiP (ns.map sPair) ↔ ∀ x ∈ ns, Ascii x := by
  constructor
  · intro h x hx; exact (h _ (List.mem_map.mpr ⟨x, hx, rfl⟩)).2
  · intro h q hq
    obtain ⟨x, hx, rfl⟩ := List.mem_map.mp hq
    exact ⟨asc_slash, h x hx⟩
/-- beyond ASCII or not -/
theorem beyond_iff (ns rs : List Str) : Ascii (textOf ns ++ Txt.join slash rs) ↔ (Ascii (Txt.join slash rs) ∧ AsciiP (ns.map sPair)) := by
  rw [asc_app, asc_text, asc_pairs]; exact And.comm
theorem kept_ascii {xs : List Str} {i : Nat} (h : Ascii (textOf (names (xs.take i)) ++ Txt.join slash (xs.drop i))) : (∀ x ∈ names xs, Ascii x) ∧ ∀ x ∈ xs.drop i, Ascii x := by
  rw [asc_app, asc_text, asc_join asc_slash] at h
  refine ⟨fun x hx => ?_, h.2⟩
  have e : names xs = fwd (names (xs.take i)) (xs.drop i) := by rw [names_fwd, names_fwd, ← fwd_app, List.take_append_drop]
  rw [e] at hx
  rcases fwd_mem hx with hx | hx
  · exact h.1 x hx
  · exact h.2 x hx
/-- the accumulator's text and length -/
theorem two_join (a b : Str) : Txt.join sE [a, b] = a ++ b := by
  rw [txt_join]
  show a ++ sE ++ b = _
  rw [show sE = Str.empty from by decide +kernel, Str.append_empty]
theorem strOf_text (ns : List Str) : strOf (ns.map sPair) = textOf ns := by
  unfold strOf textOf
  rw [List.map_map, show (fun p : Tx × Tx => Txt.join (Str.ofString "") [p.1.str, p.2.str]) ∘ sPair = (slash ++ ·) from funext fun x => two_join slash x]
theorem join_empty_len (xs : List Str) : (Txt.join sE xs).length = (xs.map (·.length)).sum := by
  rw [txt_join]
  have h : (Str.join sE xs).cps.toList.length = (xs.map (·.length)).sum := by
    rw [join_cps]
    cases xs with
    | nil => rfl
    | cons x r =>
      have hE : sE.cps.toList = [] := by decide +kernel
      simp only [hE, List.nil_append, List.length_append, List.length_flatten, List.map_map, List.map_cons, List.sum_cons]
      congr 1
  rw [← h]; simp [Str.length]
theorem sum_len (ns : List Str) : ((ns.map sPair).map pairLen).sum = ((textOf ns).length : Int) := by
  unfold textOf
  rw [join_empty_len]
  have h1 : slash.length = 1 := by decide +kernel
  induction ns with
  | nil => rfl
  | cons x r ih =>
    simp only [List.map_cons, List.sum_cons]
    rw [ih, Str.length_append]
    simp only [pairLen, Tx.len, h1]
    push_cast
    omega
theorem sum_octs (ns : List Str) : ((octs ns).map pairLen).sum = (ns.map fun x => 1 + (x.length : Int)).sum := by
  unfold octs
  induction ns with
  | nil => rfl
  | cons x r ih =>
    simp only [List.map_cons, List.sum_cons]
    rw [ih]
    have : (encB x).size = x.length := by unfold encB; rw [Array.size_map]; rfl
    simp only [pairLen, Tx.len, this]
    rfl
end Mine
end
section
open PySem PySem.W PyProof.Rows PySem.Calls
set_option maxRecDepth 100000
set_option maxHeartbeats 1000000
namespace Mine
theorem sum_small {xs : List Str} {b n : Nat} (h : ∀ x ∈ xs, x.length ≤ b) (hn : xs.length ≤ n) : (xs.map (·.length)).sum ≤ n * b := by
  have : (xs.map (·.length)).sum ≤ xs.length * b := by
    clear hn
    induction xs with
    | nil => simp
    | cons x r ih =>
      have h1 := ih fun y hy => h y (.tail _ hy)
      have h2 := h x (.head _)
      simp only [List.map_cons, List.sum_cons, List.length_cons, Nat.add_mul, Nat.one_mul]
      omega
  exact Nat.le_trans this (Nat.mul_le_mul_right _ hn)
theorem piece_sum {xs : List Str} (h : ∀ x ∈ xs, Piece x) (hn : xs.length ≤ 10) : (xs.map (·.length)).sum + xs.length ≤ 1048576 := by
  have := sum_small (b := 3) (fun x hx => (h x hx).2) hn
  omega
theorem slash_sum {xs : List Str} (h : ∀ x ∈ xs, Piece x) (hn : xs.length ≤ 10) : ((xs.map (slash ++ ·)).map (·.length)).sum + (xs.map (slash ++ ·)).length ≤ 1048576 := by
  have h1 : slash.length = 1 := by decide +kernel
  have := sum_small (xs := xs.map (slash ++ ·)) (b := 4) (n := 10) (fun x hx => by
    obtain ⟨y, hy, rfl⟩ := List.mem_map.mp hx
    have := (h y hy).2
    rw [Str.length_append, h1]; omega) (by rw [List.length_map]; exact hn)
  rw [List.length_map]; omega
theorem txt_len (sep : Str) (xs : List Str) : (Txt.join sep xs).length ≤ (xs.map (·.length)).sum + xs.length * sep.length := by
  rw [txt_join]
  have h : (Str.join sep xs).length = (Str.join sep xs).cps.toList.length := by simp [Str.length]
  rw [h, join_cps]
  cases xs with
  | nil => simp
  | cons x r =>
    simp only [List.length_append, List.length_flatten, List.map_map, List.map_cons, List.sum_cons, List.length_cons]
    have e : (r.map (List.length ∘ fun y : Str => sep.cps.toList ++ y.cps.toList)).sum = (r.map (·.length)).sum + r.length * sep.length := by
      clear h
      induction r with
      | nil => simp
      | cons y r ih =>
        simp only [List.map_cons, List.sum_cons, List.length_cons, Nat.add_mul, Nat.one_mul, Function.comp, List.length_append]
        have ih' : (r.map (List.length ∘ fun y : Str => sep.cps.toList ++ y.cps.toList)).sum = (r.map (·.length)).sum + r.length * sep.length := ih
        rw [ih']
        have : sep.cps.toList.length = sep.length := by simp [Str.length]
        have : y.cps.toList.length = y.length := by simp [Str.length]
        omega
    rw [e]
    have : x.cps.toList.length = x.length := by simp [Str.length]
    rw [Nat.add_mul]
    omega
theorem path_len {xs : List Str} (h : ∀ x ∈ xs, Piece x) (hn : xs.length ≤ 10) : (Txt.join slash xs).length ≤ 40 := by
  have h1 : slash.length = 1 := by decide +kernel
  have h2 := txt_len slash xs
  have h3 := sum_small (b := 3) (fun x hx => (h x hx).2) hn
  rw [h1] at h2
  omega
theorem text_len {xs : List Str} (h : ∀ x ∈ xs, Piece x) (hn : xs.length ≤ 10) : (textOf xs).length ≤ 40 := by
  have h1 : slash.length = 1 := by decide +kernel
  have h2 := txt_len sE (xs.map (slash ++ ·))
  have h0 : sE.length = 0 := by decide +kernel
  have h3 := sum_small (xs := xs.map (slash ++ ·)) (b := 4) (n := 10) (fun x hx => by
    obtain ⟨y, hy, rfl⟩ := List.mem_map.mp hx
    have := (h y hy).2
    rw [Str.length_append, h1]; omega) (by rw [List.length_map]; exact hn)
  rw [h0] at h2
  show (Txt.join sE _).length ≤ 40
  omega
theorem names_piece {xs : List Str} (h : ∀ x ∈ xs, Piece x) : ∀ x ∈ names xs, Piece x := fun x hx => h x (names_mem hx)
theorem take_piece {xs : List Str} (h : ∀ x ∈ xs, Piece x) (i : Nat) : ∀ x ∈ xs.take i, Piece x := fun x hx => h x (List.mem_of_mem_take hx)
theorem drop_piece {xs : List Str} (h : ∀ x ∈ xs, Piece x) (i : Nat) : ∀ x ∈ xs.drop i, Piece x := fun x hx => h x (List.mem_of_mem_drop hx)
section
variable {prog : Program} {w : World} {A : Around} {E : Value → Shared → Prop} {s : Shared} {Q : Value → Shared → Prop}
theorem ne_same_str {x y : Str} {t u : Tok} (e : x = y) (h : Q (.bool false) s) : wpAny (model prog w) A (compareOp .NotEq (.str x t) (.str y u)) Q E s := by
  subst e
  refine PySem.P.ne_str ?_
  rw [show (x.cps.toList != x.cps.toList) = false from by simp]
  exact h
theorem ne_same_int {x y : Int} {t u : Tok} (e : x = y) (h : Q (.bool false) s) : wpAny (model prog w) A (compareOp .NotEq (.int x t) (.int y u)) Q E s := by
  subst e
  refine PySem.P.ne_int ?_
  rw [show (x != x) = false from by simp]
  exact h
end
end Mine
end
section
open PySem PySem.W PyProof.Rows
set_option maxRecDepth 100000
set_option maxHeartbeats 1000000
namespace Mine
abbrev rgObj (i left : Int) : Obj := { cls := .type "range_iterator", dict := none, data := .fields #[rawInt i, rawInt left, rawInt 1], slots := #[] }
section
variable {prog : Program} {w : World} {A : Around} {E : Value → Shared → Prop} {s : Shared} {env : Env} {h₀ : Heap} {m : Str → Option Value} {news : List (Addr × Obj)} {mg mb : Str → Option Value} {p : Program} {loose : List Str} {mean : ExcName → Option Value}
/-- what a turn leaves -/
def TurnPost (h₀ : Heap) (L I : Addr) (oI : Obj) (os : OsState) (J : (Str → Option Value) → List (Addr × Obj) → Prop) (f : Flow) (s₂ : Shared) : Prop :=
  match f with
  | .next => ∃ m₂ news₂, s₂.os = os ∧ AllBare s₂.gens ∧ J m₂ news₂ ∧ Fr h₀ L s₂.heap m₂ ∧ News h₀ L s₂.heap ((I, oI) :: news₂) ∧ ∀ p ∈ news₂, p.1 ≠ I
  | _ => False
theorem for_range {x src : Str} {px p1 p2 p3 p4 p5 p6 p7 pos : Pos} {kk : Nat} {l : Addr} {vs : List Value} {nn n : Nat} {body : List Stmt} {Q : Flow → Shared → Prop} (J : Nat → (Str → Option Value) → List (Addr × Obj) → Prop)
    (hh : A.handled = none) (F : Fr h₀ env.locals s.heap m) (N : News h₀ env.locals s.heap news) (T : Top p loose mean mg mb h₀) (hg : env.globals = mainGlobals) (hb : env.builtins = builtinsNs)
    (hek : env.scope.kind = .function) (her : env.kindOf (Str.ofString "range") = some .globalImplicit) (hel : env.kindOf (Str.ofString "len") = some .globalImplicit) (hes : env.kindOf src = some .local) (hsd : (src == ("__debug__" : Str)) = false) (hms : m src = some (.ref l)) (hx : env.kindOf x = some .local)
    (hrg : mg (Str.ofString "range") = none) (hrb : mb (Str.ofString "range") = some (.type "range")) (hlg : mg (Str.ofString "len") = none) (hlb : mb (Str.ofString "len") = some (.builtin "len"))
    (hl : (l, listOf vs.toArray nn) ∈ news) (hn : vs.length + 1 = n) (hz : n ≤ 1000) (G : AllBare s.gens) (h0 : J 0 m news)
    (turn : ∀ (i : Nat) (t : Tok) (I : Addr) (s₁ : Shared) m₁ news₁ (E' : Value → Shared → Prop), i < n → s₁.os = s.os → AllBare s₁.gens → J i m₁ news₁ → (∀ p ∈ news₁, p.1 ≠ I) → Fr h₀ env.locals s₁.heap (fun y => if y = x then some (.int (i : Int) t) else m₁ y) →
      News h₀ env.locals s₁.heap ((I, rgObj ((i : Int) + 1) ((n : Int) - i - 1)) :: news₁) → wpAny (model prog w) A (execs body env) (TurnPost h₀ env.locals I (rgObj ((i : Int) + 1) ((n : Int) - i - 1)) s.os (J (i + 1))) E' s₁)
    (done : ∀ (s₂ : Shared) m₂ news₂, s₂.os = s.os → AllBare s₂.gens → J n m₂ news₂ → Fr h₀ env.locals s₂.heap m₂ → News h₀ env.locals s₂.heap news₂ → Q .next s₂) :
    wpAny (model prog w) A (exec (.For (.Name x px) (.Call (.Name (Str.ofString "range") p1) [.BinOp (.Call (.Name (Str.ofString "len") p2) [.Name src p3] [] p4) .Add (.Constant (.int 1) kk p5) p6] [] p7) body [] pos) env) Q E s := by
  have hgs : s.heap.Ns env.globals mg := hg ▸ (T.g.keeps F.keep)
  have hbs : s.heap.Ns env.builtins mb := hb ▸ (T.b.keeps F.keep)
  have hp : (env.scope.kind == .class || (env.scope.kind == .module && env.locals != env.globals)) = false := by rw [hek]; rfl
  refine wpAny_For ?_ (by intro _; rfl)
  refine wpAny_Call_NameR (Calls.Name_function_global hek her (Calls.loadGlobal_builtin hgs hrg hbs hrb ?_) (by decide))
  rw [show backTo p7 (starEach [.BinOp (.Call (.Name (Str.ofString "len") p2) [.Name src p3] [] p4) .Add (.Constant (.int 1) kk p5) p6] env) = [(false, eval (.BinOp (.Call (.Name (Str.ofString "len") p2) [.Name src p3] [] p4) .Add (.Constant (.int 1) kk p5) p6) env)] from rfl]
  refine PySem.callWith_type1 (wpAny_BinOp (wpAny_Call_NameR (Calls.Name_function_global hek hel (Calls.loadGlobal_builtin hgs hlg hbs hlb ?_) (by decide))))
  rw [show backTo p4 (starEach [.Name src p3] env) = [(false, eval (.Name src p3) env)] from rfl]
  refine PySem.callWith_builtin1 (wpAny_Name (wpAny_loadName_local hek hes F.ns hms ?_) hsd)
  refine Calls.call_len_list (News.isList N hl) (by rw [List.size_toArray]; omega) ?_
  refine wpAny_Constant_int (wpAny_add_int (call_range_1 ?_))
  have hn' : ((vs.toArray.size : Int) + 1) = (n : Int) := by rw [List.size_toArray]; omega
  rw [hn']
  refine wpAny_pyIter_range (a := 0) (b := (n : Int)) (c := 1) (Heap.get?_push_size _ rfl) (small_one (by decide) (by decide) (by omega) (by omega)) ?_
  rw [show Builtin.Range.rangeSize 0 (n : Int) 1 = (n : Int) from by rw [rangeSize_one]; split <;> omega]
  dsimp only
  have F₁ := fun o => F.push o
  generalize hob : ({ cls := .type "range", data := .fields _ } : Obj) = ob
  have F₁ := F₁ ob
  generalize hgh : s.heap.push ob = g at F₁ ⊢
  have N₁ : News h₀ env.locals g news := hgh ▸ N.grown fun _ _ e => Heap.get?_push_of_some _ e
  have hIL : @Ne Nat g.objs.size env.locals := fun e => absurd F₁.ns.lt (e ▸ Nat.lt_irrefl _)
  have hI0 : h₀.get? g.objs.size = none := by
    cases q : h₀.get? g.objs.size with
    | none => rfl
    | some o => exact absurd (Heap.lt_size (F₁.keep _ _ q)) (Nat.lt_irrefl _)
  have old : ∀ b o, h₀.get? b = some o → b ≠ g.objs.size := fun b o e hb => by rw [hb, hI0] at e; cases e
  refine codeAny_forLoop (fun k s' => ∃ i m' news', i ≤ n ∧ k = n + 1 - i ∧ s'.os = s.os ∧ AllBare s'.gens ∧ J i m' news' ∧ Fr h₀ env.locals s'.heap m' ∧ News h₀ env.locals s'.heap ((g.objs.size, rgObj (i : Int) ((n : Int) - i)) :: news') ∧ ∀ p ∈ news', p.1 ≠ g.objs.size) ?_ (n + 1) ?_
  · rintro k ⟨h', g', d', tk', os'⟩ ⟨i, m', news', hi, rfl, rfl, hG, hJ, F', N', hne⟩
    have hit : IsRangeIter h' g.objs.size (i : Int) ((n : Int) - i) 1 := (N' _ (.head _)).1
    by_cases hlt : i < n
    · refine wpAny_pyNext_range_item hit (by omega) fun h₁ hit₁ hs₁ => ?_
      have F'₁ : Fr h₀ env.locals h₁ m' := ⟨F'.ns.at' fun o e => hs₁.extBut _ o (Ne.symm hIL) e, fun b o e => hs₁.extBut b o (old b o e) (F'.keep b o e), F'.above⟩
      have N'₁ : News h₀ env.locals h₁ ((g.objs.size, rgObj ((i : Int) + 1) ((n : Int) - i - 1)) :: news') := fun q hq => by
        rcases List.mem_cons.mp hq with rfl | hq
        · exact ⟨hit₁, (N' _ (.head _)).2⟩
        · exact ⟨hs₁.extBut _ _ (hne q hq) (N' q (.tail _ hq)).1, (N' q (.tail _ hq)).2⟩
      refine wpAny_assign_Name (wpAny_storeName_local hx F'₁.ns (fun h₂ hn₂ hs₂ => ?_) hp)
      refine wpAny_mono (turn i _ g.objs.size ⟨h₂, g', d', _, s.os⟩ m' news' _ hlt rfl hG hJ hne (F'₁.set hn₂ hs₂) (N'₁.set hs₂)) (fun f s₃ h₃ => ?_) fun _ _ e => e
      cases f with
      | ret v => exact h₃.elim
      | brk => exact h₃.elim
      | cont => exact h₃.elim
      | next =>
        obtain ⟨m₂, news₂, e₂, hG₂, hJ₂, F₂, N₂, hne₂⟩ := h₃
        refine ⟨n + 1 - (i + 1), by omega, i + 1, m₂, news₂, hlt, rfl, e₂, hG₂, hJ₂, F₂, ?_, hne₂⟩
        rw [show ((i + 1 : Nat) : Int) = (i : Int) + 1 from by omega, show (n : Int) - ((i : Int) + 1) = (n : Int) - i - 1 from by omega]
        exact N₂
    · obtain rfl : i = n := by omega
      refine wpAny_pyNext_range_end hh hit (by omega) fun h₁ he₁ => wpAny_execs_nil ?_
      refine done ⟨h₁, g', d', _, s.os⟩ m' news' rfl hG hJ ⟨F'.ns.at' fun o e => he₁ _ o (Ne.symm hIL) e, fun b o e => he₁ b o (old b o e) (F'.keep b o e), F'.above⟩ fun q hq => ⟨he₁ _ _ (hne q hq) (N' q (.tail _ hq)).1, (N' q (.tail _ hq)).2⟩
  · refine ⟨0, m, news, Nat.zero_le _, rfl, rfl, G, h0, F₁.push _, fun q hq => ?_, fun q hq e => absurd (Heap.lt_size (N₁ q hq).1) (e ▸ Nat.lt_irrefl _)⟩
    rcases List.mem_cons.mp hq with rfl | hq
    · exact ⟨by show IsRangeIter _ _ _ _ _; rw [show ((0 : Nat) : Int) = 0 from rfl, Int.sub_zero]; exact Heap.get?_push_size _ rfl, hIL, hI0⟩
    · exact ⟨Heap.get?_push_of_some _ (N₁ q hq).1, (N₁ q hq).2⟩
end
end Mine
end
section
open PySem PySem.W PyProof.Rows PySem.SeqAt
set_option maxRecDepth 100000
set_option maxHeartbeats 1000000
namespace Mine
section
variable {prog : Program} {w : World} {A : Around} {E : Value → Shared → Prop} {s : Shared} {h₀ : Heap} {L : Addr} {news : List (Addr × Obj)}
theorem ne_nil_list {l b : Addr} {vs : List Value} {n n' : Nat} {Q : Value → Shared → Prop} (N : News h₀ L s.heap news) (hl : (l, listOf vs.toArray n) ∈ news) (hb : (b, listOf #[] n') ∈ news) (hu : A.units < cLine) (h : Q (.bool (decide (vs ≠ []))) s) :
    wpAny (model prog w) A (compareOp .NotEq (.ref l) (.ref b)) Q E s := by
  have h1 := News.isList N hl
  have h2 := News.isList N hb
  by_cases hv : vs = []
  · subst hv
    exact RcNeAt.lists (e := fun _ => true) h1 h2 rfl hu (fun j h1 _ => absurd h1 (Nat.not_lt_zero _)) prog w E Q h
  · have e : decide (vs ≠ []) = true := by simp [hv]
    rw [e] at h
    exact RcNeAt.lists_lengths h1 h2 (by simpa using hv) hu prog w E Q h
theorem all_true (k : Nat) : ((List.range k).all fun _ => true) = true := List.all_eq_true.mpr fun _ _ => rfl
theorem txEq {a : Tx} {u v : Value} (h1 : TxV a u) (h2 : TxV a v) : EqAt A s u v true := by
  cases h1 with
  | s x t => cases h2 with
    | s _ t' => exact (beq_self_eq_true x) ▸ EqAt.str_str x t x t'
  | b x t => cases h2 with
    | b _ t' => exact fun prog w E Q h => eqBool_bytes (by simpa using h)
theorem pair_get {its : List Value} {ps : List (Tx × Tx)} (h : Pairs news its ps) : ∀ {i : Nat} {v : Value}, its[i]? = some v → ∃ tp a b u x, v = .ref tp ∧ ps[i]? = some (a, b) ∧ (tp, tupObj [u, x]) ∈ news ∧ TxV a u ∧ TxV b x := by
  induction h with
  | nil => intro i v e; simp at e
  | cons hm h1 h2 _ ih =>
    intro i v e
    cases i with
    | zero => simp at e; exact ⟨_, _, _, _, _, e.symm, by simp, hm, h1, h2⟩
    | succ i => simp at e; simpa using ih e
theorem ne_pairs {l b : Addr} {its ys : List Value} {ps : List (Tx × Tx)} {n n' : Nat} {Q : Value → Shared → Prop} (N : News h₀ L s.heap news) (hl : (l, listOf its.toArray n) ∈ news) (hb : (b, listOf ys.toArray n') ∈ news)
    (h1 : Pairs news its ps) (h2 : Pairs news ys ps) (hu : A.units + 2 < cLine) (h : Q (.bool false) s) :
    wpAny (model prog w) A (compareOp .NotEq (.ref l) (.ref b)) Q E s := by
  have e1 := h1.len
  have e2 := h2.len
  refine RcNeAt.lists (e := fun _ => true) (News.isList N hl) (News.isList N hb) (by simp; omega) (by omega) (fun j g1 g2 => ?_) prog w E Q (by rw [all_true]; exact h)
  obtain ⟨tp, a, c, u, x, q1, q2, q3, q4, q5⟩ := pair_get h1 (i := j) (v := its.toArray[j]) (by simp)
  obtain ⟨tp', a', c', u', x', r1, r2, r3, r4, r5⟩ := pair_get h2 (i := j) (v := ys.toArray[j]) (by simp)
  rw [q2] at r2
  cases r2
  rw [q1, r1]
  by_cases hne : tp = tp'
  · subst hne; exact EqAt.same _
  · refine EqAt.of_refs hne ?_
    have t1 : s.heap.IsTuple tp #[u, x] := ⟨_, (N _ q3).1, rfl, 0, rfl⟩
    have t2 : s.heap.IsTuple tp' #[u', x'] := ⟨_, (N _ r3).1, rfl, 0, rfl⟩
    have := RcAt.tuples (A := A.in1) (s := s) (e := fun _ => true) t1 t2 (show A.units + 1 < cLine by omega) (fun j g1 g2 => by
      have : j = 0 ∨ j = 1 := by simp at g1; omega
      rcases this with rfl | rfl
      · exact txEq q4 r4
      · exact txEq q5 r5)
    rw [all_true] at this
    exact this
end
end Mine
end
section
open PySem PySem.W PyProof.Rows PySem.Calls
set_option maxRecDepth 100000
set_option maxHeartbeats 1000000
namespace Mine
section
variable {prog : Program} {w : World} {A : Around} {E : Value → Shared → Prop} {s : Shared} {mean : ExcName → Option Value} {mg mb : Str → Option Value}
variable {h₀ hm : Heap} {outer : List Env} {e : Addr} {m : Str → Option Value} {news : List (Addr × Obj)} {msg : Str} {env : Env} {Q : Flow → Shared → Prop} {n : Str} {b₀ : Stmt} {suite : List Stmt} {np pos : Pos}
theorem caught_X (hfr : A.frames = some (env :: outer)) (hf : env.frame = some env.locals) (F : Fr h₀ env.locals hm m) (U : hm.UpToSlots s.heap) (R : RaisedX h₀ (env :: outer) e msg news s.heap) (T : Top p0 loose0 mean mg mb h₀)
    (hg : env.globals = mainGlobals) (hb : env.builtins = builtinsNs) (hk : env.scope.kind = .function) (hn : env.kindOf n = some .local) (hx : env.kindOf (Str.ofString "ValueError") = some .globalImplicit)
    (k : ∀ (u t : Addr) (oe ou : Obj) (tm : Tok) (h' : Heap) (tk : Nat) (E' : Value → Shared → Prop), Fr h₀ env.locals h' (fun y => if y = n then some (.ref e) else m y) → News h₀ env.locals h' ((e, oe) :: (u, ou) :: (t, tupObj [.str msg tm]) :: news) →
      Hv.In (.two e u) ((e, oe) :: (u, ou) :: (t, tupObj [.str msg tm]) :: news) → Got ((e, oe) :: (u, ou) :: (t, tupObj [.str msg tm]) :: news) e t (.type "ValueError") [.str msg tm] →
      wpAny (model prog w) (A.mark (some (.ref e))) (execs (b₀ :: suite) env)
        (fun f s₄ => wpAny (model prog w) A (do bindName env n .none; unbindBehindTheSuite env n pos) (fun _ s₅ => Q f s₅) E s₄) E' { s with heap := h', toks := tk }) :
    wpAny (model prog w) A (noteFrame (.ref e) env)
      (fun _ s₂ => wpAny (model prog w) A (setFlight (.ref e) none) (fun _ s₃ =>
        wpAny (model prog w) A (handleBy (.ref e) env [.ExceptHandler (some (.Name (Str.ofString "ValueError") np)) (some n) (b₀ :: suite) pos]) Q E s₃) E s₂) E s := by
  obtain ⟨B, u, t, tm, hB, hl, O, hne, hcu, hnu, ht, hnt⟩ := R
  have hL : B.get? env.locals = none := by
    obtain ⟨_, ⟨L', _, hf', hn', _⟩, _⟩ := O.frames
    rw [hf] at hf'
    cases hf'
    exact hn'
  refine note_onP fits_PV hfr hf O fun h₄ O₄ U₄ => ?_
  refine flightP O₄ fun h₅ O₅ U₅ => ?_
  have st : ∀ {h' : Heap}, B.StaysIn h' → h₀.StaysIn h' := fun z b o q => z b o (hB b o q)
  have F₅ := F.of_stays (st O₅.stays) ((U.trans U₄).trans U₅)
  obtain ⟨ob, ho5, hcb⟩ : ∃ ob, h₅.get? e = some ob ∧ ob.cls = .type "ValueError" := by
    obtain ⟨_, _, _, oe, vs, T, oT, ts, he, h0, _⟩ := O₅; exact ⟨oe, he, h0.1⟩
  have hp : (env.scope.kind == .class || (env.scope.kind == .module && env.locals != env.globals)) = false := by rw [hk]; rfl
  refine wpAny_handleBy_builtin_as (X := "ValueError") (T := "ValueError") (b := true) PySem.F.isExc_ValueError PySem.F.notTuple_ValueError (by rw [isSubtype_type]; kernel_rfl)
    (Calls.Name_function_global hk hx (Calls.loadGlobal_builtin (show Heap.Ns _ env.globals mg from hg ▸ (T.g.keeps F₅.keep)) (top_none T (by decide +kernel) (by decide +kernel)) (show Heap.Ns _ env.builtins mb from hb ▸ (T.b.keeps F₅.keep)) (top_boot T (by decide +kernel) boot_ve) ⟨rfl, ⟨ob, ho5, hcb⟩, ?_⟩) (by decide))
  refine flightP O₅ fun h₆ O₆ U₆ => ?_
  have F₆ := F.of_stays (st O₆.stays) (((U.trans U₄).trans U₅).trans U₆)
  obtain ⟨oe, vs, he, hce, hde, h0e, h2e⟩ : ∃ oe vs, h₆.get? e = some oe ∧ oe.cls = .type "ValueError" ∧ oe.data = .fields vs ∧ vs[0]? = some (.ref t) ∧ vs[2]? = some (.ref u) := by
    obtain ⟨_, _, _, oe, vs, T, oT, ts, he, h0, hd, _⟩ := O₆; exact ⟨oe, vs, he, h0.1, hd, h0.2.1, h0.2.2⟩
  obtain ⟨ou, us, hou, hdu, h2u⟩ := hcu
  have eL : e ≠ env.locals := fun q => by
    obtain ⟨_, ⟨L', o, hf', _, ho', hd'⟩, _⟩ := O₆.frames
    rw [hf] at hf'; cases hf'
    rw [← q, he] at ho'; cases ho'
    exact hd' vs hde
  have uL : u ≠ env.locals := fun q => by rw [q, hL] at hou; cases hou
  have tL : t ≠ env.locals := fun q => by rw [q, hL] at ht; cases ht
  have eu : e ≠ u := fun q => by
    have := O.new; rw [q, hou] at this; cases this
  have N₆ : News h₀ env.locals h₆ ((e, oe) :: (u, ou) :: (t, tupObj [.str msg tm]) :: news) := fun q hq => by
    simp only [List.mem_cons] at hq
    rcases hq with rfl | rfl | rfl | hq
    · exact ⟨he, eL, hne⟩
    · exact ⟨O₆.stays _ _ hou, uL, hnu⟩
    · exact ⟨O₆.stays _ _ ht, tL, hnt⟩
    · exact ⟨O₆.stays _ _ (hl q hq).1, (fun z => by have := (hl q hq).1; rw [z, hL] at this; cases this), (hl q hq).2⟩
  refine wpAny_storeName_local hn F₆.ns (fun h₇ hn₇ hs₇ => ?_) hp
  exact k u t oe ou tm h₇ _ _ (F₆.set hn₇ hs₇) (N₆.set hs₇) ⟨⟨oe, vs, .head _, hde, h2e⟩, ⟨ou, us, .tail _ (.head _), hdu, h2u⟩, eu⟩ ⟨oe, _, vs, 0, .head _, .tail _ (.tail _ (.head _)), hce, hde, h0e, rfl, rfl⟩
end
end Mine
end
section
open PySem PySem.W PyProof.Rows
set_option maxRecDepth 100000
set_option maxHeartbeats 8000000
namespace Mine
local macro_rules | `(tactic| k_mem) => `(tactic| first | assumption | exact List.mem_append.mpr (.inr (by k_mem)) | exact List.mem_append.mpr (.inl (by k_mem)))
local macro_rules | `(tactic| walk_at "getAttr ref") => `(tactic| (k_here; k_dflt (refine' get_acc ?k1 ?k2 ?k3 ?k4 ?k5 ?k6 ?k7 ?k8 ?k9 ?k10 ?_; (case k1 => k_asm); (case k2 => k_asm); (case k3 => k_inst); (case k4 => kernel_rfl); (case k5 => kernel_rfl); (case k6 => k_is); (case k7 => k_is); (case k8 => k_is); (case k9 => k_get); (case k10 => k_handed); k_whole)))

section
theorem len_ok : ∀ (H : Hv) (x dx : Addr) (its : List Value) (n : Nat) (tk0 t0 : Tok) (ps : List (Tx × Tx)) (op : Obj), ∀ (w : World) (mean : ExcName → Option Value) (mg mb : Str → Option Value)
   (dp un : Nat) (gd : Option (List Code)) (cn : Str) (cs : Scope) (a : Addr) (ccd : Value) (cl : List (Str × Addr)) (outer : List Env) (A₀ : Around) (base h₀ : Heap) (L : Addr) (m : Str → Option Value) (news : List (Addr × Obj)) (s : Shared)
    (Q E : Value → Shared → Prop)
   (B : Below A₀ base outer h₀) (F : Fr h₀ L s.heap m) (X : (hd.heap_39 w.params).In h₀) (N : News h₀ L s.heap news) (T : Top p0 loose0 mean mg mb h₀) (hk : cs.kind = .function) (hd : dp + 60 < recursionLimit) (hu : un + 600 < cLine) (G : AllBare s.gens) (hOn : H.In news) (hx : News h₀ L s.heap ((63, op) :: news)) (hop : TabObj op) (h63 : ∀ p ∈ news, p.1 ≠ 63)
   (hacc : (x, accObj dx its.toArray n) ∈ news) (hdx : (dx, sizeDict w tk0 t0) ∈ news) (hP : Pairs news its ps) (hsh : Short ps) (hz : ps.length ≤ 1000)
   (hret : ∀ (op' : Obj) (t : Tok) (h' : Heap) (g' : Array GenState) (d' : Drawn) (tk' : Nat), TabObj op' → Fr h₀ L h' m → News h₀ L h' ((63, op') :: news) → AllBare g' → Q (.int ((ps.map pairLen).sum) t) ⟨h', g', d', tk', s.os⟩),
   wpAny (model PySem.Challenge.rw_op0008_01.row.prog w) (ktrH H dp un gd cn cs L a ccd cl outer) (call (.ref 68) [.ref x]) Q E s := by
  w_top off
  k_fill
  intro H x dx its n tk0 t0 ps op w mean mg mb dp un gd cn cs a ccd cl outer A₀ base h₀ L m news s Q E B F X N T hk hd hu G hOn hx hop h63 hacc hdx hP hsh hz hret
  clear N
  obtain ⟨vals, hvals, hvl, hvp⟩ := pairs_vals hP
  refine wpAny_call ?_
  k_dflt ((refine' code_def ?k1 ?k2 ?k3 ?k4 ?k5 ?kA ?kF ?kK ?k6 ?k7 ?k8 ?k9 ?kB ?_ ?c2 ?c3 ?c4 ?c5; (case kA => exact rfl); (case kF => exact rfl); (case kK => first | exact rfl | assumption); (case k1 => k_asm); (case k2 => k_asm); (case k3 => k_asm); (case k4 => k_asm); (case k5 => k_asm); (case k6 => k_is); (case k7 => k_is); (case k8 => ktr_room); (case k9 => first | exact BindsTo.of_eq rfl | exact binds_K (by k_in) rfl (by k_is) rfl rfl rfl); (case c5 => decide); (case kB => exact locs rfl); (case c2 => exact rfl); (case c3 => exact rfl); (case c4 => exact rfl); k_whole; intro g' L' h' FG' F' N' B' X' T'; (try dsimp only); (try k_lift B'); (try k_fold)))
  k_steps
  refine hide_q fun Q9 hQ9 => ?_
  k_dflt (refine' wpAny_GeneratorExp_make ?h1 ?h2 ?h3 ?h4 ?h5 ?h6 ?_ ?h7; (case h1 => exact rfl); (case h2 => exact rfl); (case h3 => decide); (case h4 => exact rfl); (case h5 => exact rfl); (case h6 => ktr_room); (case h7 => intro x; rfl))
  k_steps
  k_dflt (refine' gen_rest (H := H) (vals := vals) (fun j y => ∃ t, y = Value.int (lenAt ps j) t) ?h1 ?h2 ?h3 ?F ?N ?h4 ?X ?T ?G ?h5 ?h6 ?h7 ?h8 ?h9 ?h10 ?h11 ?h12 ?h13 ?h14 ?h15 ?h16 ?h17 ?h18 ?helt ?hQ; (case h1 => exact rfl); (case F => k_asm); (case N => k_asm); (case h2 => exact Hv.In.on hOn (led_tail (by k_asm))); (case h3 => exact Hv.In.ne hOn h63); (case h4 => exact h63); (case X => k_in); (case T => k_asm); (case G => exact G); (case h5 => kernel_rfl); (case h6 => k_is); (case h7 => exact hacc); (case h8 => exact hvals); (case h9 => exact rfl); (case h10 => exact codeIn_of (by k_in) (by kernel_rfl)); (case h11 => exact hop); (case h12 => exact rfl); (case h13 => exact rfl); (case h14 => exact rfl); (case h15 => decide); (case h16 => exact rfl); (case h17 => exact rfl); (case h18 => ktr_room))
  · intro C code A' E' i u v s₂ m₂ hA hAd hAu hi F9 N9 hm1 hm2
    obtain ⟨pa, pb, hp9, ta, tb⟩ := hvp i u v hi
    have hq9 := hsh _ (List.mem_of_getElem? hp9)
    refine len_elt (mg := mg) (mb := mb) (m := m₂) rfl rfl rfl (by decide) rfl (by decide) (Top.g ‹_› |>.keeps F9.keep) ?g1 (Top.b ‹_› |>.keeps F9.keep) ?g2 F9.ns hm1 hm2 ta tb hq9.1 hq9.2 fun t tk => ⟨⟨t, ?_⟩, ⟨_, _, rfl, fun _ _ e => e⟩⟩
    case g1 => exact T.free _ (by decide +kernel) (by decide +kernel) (by decide +kernel) (by decide +kernel) (by decide +kernel)
    case g2 => exact (T.builtins _ (by decide +kernel)).trans (by first | exact PyProof.Rows.boot_len | rfl)
    unfold lenAt pairLen
    rw [hp9]
  · intro a Kb op' s₅ F9 N9 hop9 G9 hos9 _ hLK9 hK9 X9
    rw [hQ9]
    obtain ⟨h5, g5, d5, tk5, os5⟩ := s₅
    dsimp only at F9 N9 G9 hos9
    subst hos9
    k_steps
    k_dflt (refine' sum_gen (val := lenAt ps) ?F ?N ?G (gen_toks X9 (by simp)) ?h1 ?h2 ?h3 ?_; (case F => exact F9); (case N => exact N9); (case G => exact G9); (case h1 => exact hLK9); (case h2 => exact hK9); (case h3 => exact fun j v h => h))
    intro h' g' d' tk' t' F' N' G'
    k_steps
    rw [hvals.len, hvl, lenAt_sum]
    exact hret _ _ _ _ _ _ hop9 (by k_asm) (by k_asm) G'
end
end Mine
end
section
open PySem PySem.W PyProof.Rows
set_option maxRecDepth 100000
set_option maxHeartbeats 4000000
namespace Mine
local macro_rules | `(tactic| k_mem) => `(tactic| first | assumption | exact List.mem_append.mpr (.inr (by k_mem)) | exact List.mem_append.mpr (.inl (by k_mem)))

section
theorem str_ok : ∀ (H : Hv) (x dx : Addr) (its : List Value) (n : Nat) (tk0 t0 : Tok) (ps : List (Tx × Tx)) (op : Obj), ∀ (w : World) (mean : ExcName → Option Value) (mg mb : Str → Option Value)
   (dp un : Nat) (gd : Option (List Code)) (cn : Str) (cs : Scope) (a : Addr) (ccd : Value) (cl : List (Str × Addr)) (outer : List Env) (A₀ : Around) (base h₀ : Heap) (L : Addr) (m : Str → Option Value) (news : List (Addr × Obj)) (s : Shared)
    (Q E : Value → Shared → Prop)
   (B : Below A₀ base outer h₀) (F : Fr h₀ L s.heap m) (X : (hd.heap_39 w.params).In h₀) (N : News h₀ L s.heap news) (T : Top p0 loose0 mean mg mb h₀) (hk : cs.kind = .function) (hd : dp + 60 < recursionLimit) (hu : un + 600 < cLine) (G : AllBare s.gens) (hOn : H.In news) (hx : News h₀ L s.heap ((70, op) :: news)) (hop : TabObj op) (h70 : ∀ p ∈ news, p.1 ≠ 70)
   (hacc : (x, accObj dx its.toArray n) ∈ news) (hdx : (dx, sizeDict w tk0 t0) ∈ news) (hP : Pairs news its ps) (hsh : Short ps) (hz : ps.length ≤ 1000) (hS : AllS ps)
   (hret : ∀ (op' : Obj) (t : Tok) (h' : Heap) (g' : Array GenState) (d' : Drawn) (tk' : Nat), TabObj op' → Fr h₀ L h' m → News h₀ L h' ((70, op') :: news) → AllBare g' → Q (.str (strOf ps) t) ⟨h', g', d', tk', s.os⟩),
   wpAny (model PySem.Challenge.rw_op0008_01.row.prog w) (ktrH H dp un gd cn cs L a ccd cl outer) (call (.ref 75) [.ref x]) Q E s := by
  w_top off
  k_fill
  intro H x dx its n tk0 t0 ps op w mean mg mb dp un gd cn cs a ccd cl outer A₀ base h₀ L m news s Q E B F X N T hk hd hu G hOn hx hop h70 hacc hdx hP hsh hz hS hret
  clear N
  obtain ⟨vals, hvals, hvl, hvp⟩ := pairs_vals hP
  refine wpAny_call ?_
  k_dflt ((refine' code_def ?k1 ?k2 ?k3 ?k4 ?k5 ?kA ?kF ?kK ?k6 ?k7 ?k8 ?k9 ?kB ?_ ?c2 ?c3 ?c4 ?c5; (case kA => exact rfl); (case kF => exact rfl); (case kK => first | exact rfl | assumption); (case k1 => k_asm); (case k2 => k_asm); (case k3 => k_asm); (case k4 => k_asm); (case k5 => k_asm); (case k6 => k_is); (case k7 => k_is); (case k8 => ktr_room); (case k9 => first | exact BindsTo.of_eq rfl | exact binds_K (by k_in) rfl (by k_is) rfl rfl rfl); (case c5 => decide); (case kB => exact locs rfl); (case c2 => exact rfl); (case c3 => exact rfl); (case c4 => exact rfl); k_whole; intro g' L' h' FG' F' N' B' X' T'; (try dsimp only); (try k_lift B'); (try k_fold)))
  k_steps
  refine hide_q fun Q9 hQ9 => ?_
  k_dflt (refine' wpAny_GeneratorExp_make ?h1 ?h2 ?h3 ?h4 ?h5 ?h6 ?_ ?h7; (case h1 => exact rfl); (case h2 => exact rfl); (case h3 => decide); (case h4 => exact rfl); (case h5 => exact rfl); (case h6 => ktr_room); (case h7 => intro x; rfl))
  k_steps
  k_dflt (refine' gen_rest (H := H) (vals := vals) (fun j y => ∃ t, y = Value.str (strAt ps j) t) ?h1 ?h2 ?h3 ?F ?N ?h4 ?X ?T ?G ?h5 ?h6 ?h7 ?h8 ?h9 ?h10 ?h11 ?h12 ?h13 ?h14 ?h15 ?h16 ?h17 ?h18 ?helt ?hQ; (case h1 => exact rfl); (case F => k_asm); (case N => k_asm); (case h2 => exact Hv.In.on hOn (led_tail (by k_asm))); (case h3 => exact Hv.In.ne hOn h70); (case h4 => exact h70); (case X => k_in); (case T => k_asm); (case G => exact G); (case h5 => kernel_rfl); (case h6 => k_is); (case h7 => exact hacc); (case h8 => exact hvals); (case h9 => exact rfl); (case h10 => exact codeIn_of (by k_in) (by kernel_rfl)); (case h11 => exact hop); (case h12 => exact rfl); (case h13 => exact rfl); (case h14 => exact rfl); (case h15 => decide); (case h16 => exact rfl); (case h17 => exact rfl); (case h18 => ktr_room))
  · intro C code A' E' i u v s₂ m₂ hA hAd hAu hi F9 N9 hm1 hm2
    obtain ⟨pa, pb, hp9, ta, tb⟩ := hvp i u v hi
    have hq9 := hsh _ (List.mem_of_getElem? hp9)
    obtain ⟨a9, b9, e9⟩ := hS _ (List.mem_of_getElem? hp9)
    cases e9
    cases ta with | s _ tu => cases tb with | s _ tv =>
    have hem : mg (Str.ofString "EMPTYSTRING") = some (.str (Str.ofString "") _) := mg_of X T.g (by k_is)
    refine str_elt (mg := mg) (m := m₂) rfl rfl (by decide) rfl (by decide) rfl (by decide) (Top.g ‹_› |>.keeps F9.keep) hem F9.ns hm1 hm2 hq9.1 hq9.2 rfl fun h' t tk hk => ⟨⟨t, ?_⟩, ⟨_, _, rfl, hk⟩⟩
    unfold strAt
    rw [hp9]
    rfl
  · intro a Kb op' s₅ F9 N9 hop9 G9 hos9 _ hLK9 hK9 X9
    rw [hQ9]
    obtain ⟨h5, g5, d5, tk5, os5⟩ := s₅
    dsimp only at F9 N9 G9 hos9
    subst hos9
    k_steps
    k_dflt (refine' join_gen (tx := strAt ps) ?F ?N ?G (gen_toks X9 (by simp)) ?h1 ?h2 ?h3 ?h4 ?h5 ?_; (case F => exact F9); (case N => exact N9); (case G => exact G9); (case h1 => exact hLK9); (case h2 => exact hK9); (case h3 => exact fun j v h => h); (case h4 => (rw [hvals.len, hvl]; exact str_ok_len ps hsh hz hS)); (case h5 => (rw [hvals.len, hvl, sizeLine_eq]; omega)))
    intro h' g' d' tk' t' F' N' G'
    k_steps
    rw [hvals.len, hvl, strAt_all]
    exact hret _ _ _ _ _ _ hop9 (by k_asm) (by k_asm) G'
end
end Mine
end
section
open PySem PySem.W PyProof.Rows PySem.Calls
set_option maxRecDepth 100000
set_option maxHeartbeats 1000000
namespace Mine
theorem tab_cls {o : Obj} (h : TabObj o) : o.cls = .none := by obtain ⟨ps, rfl, _⟩ := h; rfl
theorem tab_nil : TabObj (tabObj #[]) := ⟨#[], rfl, trivial, fun h => nomatch h⟩
theorem tab_ctx {o : Obj} {vs : Array Value} (h : TabObj o) (hd : o.data = .fields vs) (h2 : vs[2]? = some .none) : False := by
  obtain ⟨ps, rfl, _, h3⟩ := h
  cases hd
  exact h3 h2
theorem plen_names {xs : List Str} (h : xs.length ≤ 10) : (names xs).length ≤ 10 := Nat.le_trans (names_len xs) h
theorem plen_take {xs : List Str} {i : Nat} (h : xs.length ≤ 10) : (xs.take i).length ≤ 10 := by rw [List.length_take]; exact Nat.le_trans (Nat.min_le_right _ _) h
theorem plen_drop {xs : List Str} {i : Nat} (h : xs.length ≤ 10) : (xs.drop i).length ≤ 10 := by rw [List.length_drop]; exact Nat.le_trans (Nat.sub_le _ _) h
/-- the ledger with the two tables in front -/
theorem norm {h₀ hp : Heap} {L : Addr} {X : List (Addr × Obj)} {o1 o2 : Obj} (N : News h₀ L hp X) (h1 : (63, o1) ∈ X) (h2 : (70, o2) ∈ X) (t1 : TabObj o1) (t2 : TabObj o2) :
    ∃ Y, News h₀ L hp ((63, o1) :: (70, o2) :: Y) ∧ (∀ p ∈ Y, p.1 ≠ 63) ∧ (∀ p ∈ Y, p.1 ≠ 70) ∧ ∀ q ∈ X, q.2.cls ≠ .none → q ∈ Y := by
  refine ⟨X.filter (fun p => p.1 != 63 && p.1 != 70), fun q hq => N q ?_, fun p hp => ?_, fun p hp => ?_, fun q hq hc => ?_⟩
  · simp only [List.mem_cons] at hq
    rcases hq with rfl | rfl | hq
    · exact h1
    · exact h2
    · exact (List.mem_filter.mp hq).1
  · have := (List.mem_filter.mp hp).2
    simp at this; exact this.1
  · have := (List.mem_filter.mp hp).2
    simp at this; exact this.2
  · refine List.mem_filter.mpr ⟨hq, ?_⟩
    have n1 := ne_of_cls N hq h1 (by rw [tab_cls t1]; exact hc)
    have n2 := ne_of_cls N hq h2 (by rw [tab_cls t2]; exact hc)
    simp [n1, n2]
theorem pairs_norm {X Y : List (Addr × Obj)} {its : List Value} {ps : List (Tx × Tx)} (h : Pairs X its ps) (k : ∀ q ∈ X, q.2.cls ≠ .none → q ∈ Y) : Pairs Y its ps := h.filter fun q hq hc => k q hq (by rw [hc]; exact fun e => nomatch e)
theorem acc_cls_ne {w : World} {dx : Addr} {its : Array Value} {n : Nat} {tk t : Tok} : (accObj dx its n).cls ≠ (sizeDict w tk t).cls := fun e => nomatch e
/-- what a turn writes -/
def Over (m₀ m : Str → Option Value) : Prop := ∀ y, y ∉ [Str.ofString "stage", Str.ofString "names", Str.ofString "text", Str.ofString "rest", Str.ofString "beyond", Str.ofString "way", Str.ofString "error"] → m y = m₀ y
abbrev overMap (a b c d e f g : Option Value) (m₀ : Str → Option Value) : Str → Option Value := fun y => if y = Str.ofString "stage" then a else if y = Str.ofString "names" then b else if y = Str.ofString "text" then c else if y = Str.ofString "rest" then d else if y = Str.ofString "beyond" then e else if y = Str.ofString "way" then f else if y = Str.ofString "error" then g else m₀ y
theorem over_map {m₀ m : Str → Option Value} (h : Over m₀ m) : ∃ a b c d e f g, m = overMap a b c d e f g m₀ := by
  refine ⟨m (Str.ofString "stage"), m (Str.ofString "names"), m (Str.ofString "text"), m (Str.ofString "rest"), m (Str.ofString "beyond"), m (Str.ofString "way"), m (Str.ofString "error"), funext fun y => ?_⟩
  unfold overMap
  by_cases h1 : y = Str.ofString "stage"
  · rw [if_pos h1, h1]
  rw [if_neg h1]
  by_cases h2 : y = Str.ofString "names"
  · rw [if_pos h2, h2]
  rw [if_neg h2]
  by_cases h3 : y = Str.ofString "text"
  · rw [if_pos h3, h3]
  rw [if_neg h3]
  by_cases h4 : y = Str.ofString "rest"
  · rw [if_pos h4, h4]
  rw [if_neg h4]
  by_cases h5 : y = Str.ofString "beyond"
  · rw [if_pos h5, h5]
  rw [if_neg h5]
  by_cases h6 : y = Str.ofString "way"
  · rw [if_pos h6, h6]
  rw [if_neg h6]
  by_cases h7 : y = Str.ofString "error"
  · rw [if_pos h7, h7]
  rw [if_neg h7]
  exact h y (by simp [h1, h2, h3, h4, h5, h6, h7])
theorem over_refl {m₀ : Str → Option Value} : Over m₀ m₀ := fun _ _ => rfl
theorem over_set {m₀ m : Str → Option Value} {x : Str} {v : Option Value} (h : Over m₀ m) (hx : x ∈ [Str.ofString "stage", Str.ofString "names", Str.ofString "text", Str.ofString "rest", Str.ofString "beyond", Str.ofString "way", Str.ofString "error"]) : Over m₀ (fun y => if y = x then v else m y) := fun y hy => by
  by_cases e : y = x
  · subst e; exact absurd hx hy
  · show (if y = x then v else m y) = m₀ y
    rw [if_neg e]; exact h y hy
theorem nine {vs : List Value} {xs : List Str} (h : StrsAre vs xs) (k : xs.length = 9) : vs.length + 1 = 10 := by rw [strs_len h, k]
section
variable {prog : Program} {w : World} {A : Around} {E : Value → Shared → Prop} {s : Shared} {env : Env} {h₀ : Heap} {m : Str → Option Value} {news : List (Addr × Obj)} {mg mb : Str → Option Value} {p : Program} {loose : List Str} {mean : ExcName → Option Value}
theorem mv3 {α : Type} {a b c d e : α} : ∀ q ∈ [a, b, c, d, e], q ∈ [c, a, b, d, e] :=
  List.forall_mem_cons.mpr ⟨.tail _ (.head _), List.forall_mem_cons.mpr ⟨.tail _ (.tail _ (.head _)), List.forall_mem_cons.mpr ⟨.head _, fun _ h => .tail _ (.tail _ (.tail _ h))⟩⟩⟩
theorem mv3' {α : Type} {a b c d e : α} : ∀ q ∈ [c, a, b, d, e], q ∈ [a, b, c, d, e] :=
  List.forall_mem_cons.mpr ⟨.tail _ (.tail _ (.head _)), List.forall_mem_cons.mpr ⟨.head _, List.forall_mem_cons.mpr ⟨.tail _ (.head _), fun _ h => .tail _ (.tail _ (.tail _ h))⟩⟩⟩
theorem for_law {L : Addr} {p1 p2 p3 p4 p5 p6 p7 px pos : Pos} {kk : Nat} {pl kl : Addr} {vs us : List Value} {nn nu n : Nat} {body : List Stmt} {Q : Flow → Shared → Prop}
    (hh : A.handled = none) (hLe : env.locals = L) (F : Fr h₀ L s.heap m) (N : News h₀ L s.heap news) (T : Top p loose mean mg mb h₀) (hg : env.globals = mainGlobals) (hb : env.builtins = builtinsNs)
    (hek : env.scope.kind = .function) (her : env.kindOf (Str.ofString "range") = some .globalImplicit) (hel : env.kindOf (Str.ofString "len") = some .globalImplicit) (hes : env.kindOf (Str.ofString "pieces") = some .local) (hms : m (Str.ofString "pieces") = some (.ref pl)) (_hmk : m (Str.ofString "kept") = some (.ref kl)) (hx : env.kindOf (Str.ofString "stage") = some .local)
    (hrg : mg (Str.ofString "range") = none) (hrb : mb (Str.ofString "range") = some (.type "range")) (hlg : mg (Str.ofString "len") = none) (hlb : mb (Str.ofString "len") = some (.builtin "len"))
    (hl : (pl, listOf vs.toArray nn) ∈ news) (hl2 : (kl, listOf us.toArray nu) ∈ news) (h63 : (63, tabObj #[]) ∈ news) (h70 : (70, tabObj #[]) ∈ news) (hn : vs.length + 1 = n) (hz : n ≤ 1000) (G : AllBare s.gens)
    (turn : ∀ (i : Nat) (t : Tok) (I : Addr) (s₁ : Shared) (a b c d e f g : Option Value) (o1 o2 : Obj) (E' : Value → Shared → Prop), i < n → s₁.os = s.os → AllBare s₁.gens → TabObj o1 → TabObj o2 → Fr h₀ L s₁.heap (fun y => if y = Str.ofString "stage" then some (.int (i : Int) t) else overMap a b c d e f g m y) →
      News h₀ L s₁.heap [(63, o1), (70, o2), (I, rgObj ((i : Int) + 1) ((n : Int) - i - 1)), (pl, listOf vs.toArray nn), (kl, listOf us.toArray nu)] →
      wpAny (model prog w) A (execs body env) (fun fl s₂ => match fl with
        | .next => ∃ m₂ p1 p2, s₂.os = s.os ∧ AllBare s₂.gens ∧ Over m m₂ ∧ TabObj p1 ∧ TabObj p2 ∧ Fr h₀ L s₂.heap m₂ ∧ News h₀ L s₂.heap [(63, p1), (70, p2), (I, rgObj ((i : Int) + 1) ((n : Int) - i - 1)), (pl, listOf vs.toArray nn), (kl, listOf us.toArray nu)]
        | _ => False) E' s₁)
    (done : ∀ (s₂ : Shared) m₂ o1 o2, s₂.os = s.os → AllBare s₂.gens → TabObj o1 → TabObj o2 → Fr h₀ L s₂.heap m₂ → News h₀ L s₂.heap [(63, o1), (70, o2), (pl, listOf vs.toArray nn), (kl, listOf us.toArray nu)] → Q .next s₂) :
    wpAny (model prog w) A (exec (.For (.Name (Str.ofString "stage") px) (.Call (.Name (Str.ofString "range") p1) [.BinOp (.Call (.Name (Str.ofString "len") p2) [.Name (Str.ofString "pieces") p3] [] p4) .Add (.Constant (.int 1) kk p5) p6] [] p7) body [] pos) env) Q E s := by
  subst hLe
  have ne1 : ∀ {o : Obj} {I : Addr} {oI : Obj} {X : List (Addr × Obj)} {h' : Heap}, TabObj o → News h₀ env.locals h' X → (63, o) ∈ X → (I, oI) ∈ X → oI.cls ≠ .none → (63 : Addr) ≠ I := fun ht N h1 h2 hc => ne_of_cls N h1 h2 (by rw [tab_cls ht]; exact Ne.symm hc)
  refine for_range (J := fun i m₁ news₁ => Over m m₁ ∧ ∃ o1 o2, TabObj o1 ∧ TabObj o2 ∧ news₁ = [(63, o1), (70, o2), (pl, listOf vs.toArray nn), (kl, listOf us.toArray nu)]) (l := pl) (vs := vs) (nn := nn) (n := n) (news := [(63, tabObj #[]), (70, tabObj #[]), (pl, listOf vs.toArray nn), (kl, listOf us.toArray nu)]) hh F ?_ T hg hb hek her hel hes (by decide) hms hx hrg hrb hlg hlb (by simp) hn hz G ⟨over_refl, _, _, tab_nil, tab_nil, rfl⟩ ?_ ?_
  · exact List.forall_mem_cons.mpr ⟨N _ h63, List.forall_mem_cons.mpr ⟨N _ h70, List.forall_mem_cons.mpr ⟨N _ hl, List.forall_mem_cons.mpr ⟨N _ hl2, fun _ h => nomatch h⟩⟩⟩⟩
  · rintro i t I s₁ m₁ _ E' hi hos hG ⟨hO, o1, o2, t1, t2, rfl⟩ hne F₁ N₁
    obtain ⟨a, b, c, d, e, f, g, rfl⟩ := over_map hO
    refine wpAny_mono (turn i t I s₁ a b c d e f g o1 o2 E' hi hos hG t1 t2 F₁ fun q hq => N₁ q ?_) (fun fl s₂ h₂ => ?_) fun _ _ z => z
    · exact mv3 q hq
    · cases fl with
      | ret v => exact h₂
      | brk => exact h₂
      | cont => exact h₂
      | next =>
        obtain ⟨m₂, p1, p2, q1, q2, q3, q4, q5, q6, q7⟩ := h₂
        have hI : (I, rgObj ((i : Int) + 1) ((n : Int) - i - 1)) ∈ [(63, p1), (70, p2), (I, rgObj ((i : Int) + 1) ((n : Int) - i - 1)), (pl, listOf vs.toArray nn), (kl, listOf us.toArray nu)] := .tail _ (.tail _ (.head _))
        refine ⟨m₂, [(63, p1), (70, p2), (pl, listOf vs.toArray nn), (kl, listOf us.toArray nu)], q1, q2, ⟨q3, p1, p2, q4, q5, rfl⟩, q6, fun q hq => q7 q ?_, ?_⟩
        · exact mv3' q hq
        · refine List.forall_mem_cons.mpr ⟨?_, List.forall_mem_cons.mpr ⟨?_, List.forall_mem_cons.mpr ⟨?_, List.forall_mem_cons.mpr ⟨?_, fun _ h => nomatch h⟩⟩⟩⟩
          · exact ne_of_cls (p := (63, p1)) q7 (.head _) hI (by rw [tab_cls q4]; exact fun e => nomatch e)
          · exact ne_of_cls (p := (70, p2)) q7 (.tail _ (.head _)) hI (by rw [tab_cls q5]; exact fun e => nomatch e)
          · exact ne_of_cls (p := (pl, listOf vs.toArray nn)) q7 (.tail _ (.tail _ (.tail _ (.head _)))) hI (fun e => absurd (Value.type.inj e) (by decide))
          · exact ne_of_cls (p := (kl, listOf us.toArray nu)) q7 (.tail _ (.tail _ (.tail _ (.tail _ (.head _))))) hI (fun e => absurd (Value.type.inj e) (by decide))
  · rintro s₂ m₂ _ hos hG ⟨_, o1, o2, t1, t2, rfl⟩ F₂ N₂
    exact done s₂ m₂ o1 o2 hos hG t1 t2 F₂ N₂
theorem add_first {a b : Addr} {ws : List Value} {ys : List Str} {t : Tok} {n n' : Nat} {L : Addr} {Q : Value → Shared → Prop} (F : Fr h₀ L s.heap m) (N : News h₀ L s.heap news) (ha : (a, listOf #[.str (Str.ofString "") t] n) ∈ news) (hb : (b, listOf ws.toArray n') ∈ news) (hj : StrsAre ws ys) (hl : ys.length = 8) (hp : ∀ x ∈ ys, Piece x)
    (h : ∀ D h' us zs, Fr h₀ L h' m → News h₀ L h' ((D, listOf (List.toArray us) 0) :: news) → StrsAre us zs → zs.length = 9 → (∀ x ∈ zs, Piece x) → (∀ p ∈ news, p.1 < D) → Q (.ref D) { s with heap := h' }) :
    wpAny (model prog w) A (binaryOp .Add (.ref a) (.ref b)) Q E s :=
  add_strs (vs := [.str (Str.ofString "") t]) (xs := [Str.ofString ""]) F N ha hb (.cons _ _ .nil) hj (by simp; omega) fun D h' F' N' hs l1 => h D h' _ _ F' N' hs (by simp; omega) (fun x hx => by
    rcases List.mem_append.mp hx with hx | hx
    · rw [List.mem_singleton.mp hx]; exact pc_nil
    · exact hp x hx) l1
end
end Mine
end
section
open PySem PySem.W PyProof.Rows
set_option maxRecDepth 100000
set_option maxHeartbeats 4000000
namespace Mine
theorem pairs_bound {ps : List (Tx × Tx)} (hsh : Short ps) : 0 ≤ (ps.map pairLen).sum ∧ (ps.map pairLen).sum ≤ 2000 * (ps.length : Int) := by
  induction ps with
  | nil => simp
  | cons q r ih =>
    have := ih (fun q hq => hsh q (.tail _ hq))
    have hq := hsh q (.head _)
    simp only [List.map_cons, List.sum_cons, List.length_cons, pairLen]
    push_cast
    omega
theorem way_len_ok : ∀ (H : Hv) (x dx : Addr) (its : List Value) (n : Nat) (tk0 t0 : Tok) (ps : List (Tx × Tx)) (op : Obj), ∀ (w : World) (mean : ExcName → Option Value) (mg mb : Str → Option Value)
   (dp un : Nat) (gd : Option (List Code)) (cn : Str) (cs : Scope) (a : Addr) (ccd : Value) (cl : List (Str × Addr)) (outer : List Env) (A₀ : Around) (base h₀ : Heap) (L : Addr) (m : Str → Option Value) (news : List (Addr × Obj)) (s : Shared)
    (Q E : Value → Shared → Prop)
   (B : Below A₀ base outer h₀) (F : Fr h₀ L s.heap m) (X : (hd.heap_39 w.params).In h₀) (N : News h₀ L s.heap news) (T : Top p0 loose0 mean mg mb h₀) (hk : cs.kind = .function) (hd : dp + 60 < recursionLimit) (hu : un + 700 < cLine) (G : AllBare s.gens) (hOn : H.In news) (hx : News h₀ L s.heap ((63, op) :: news)) (hop : TabObj op) (h63 : ∀ p ∈ news, p.1 ≠ 63)
   (hacc : (x, accObj dx its.toArray n) ∈ news) (hdx : (dx, sizeDict w tk0 t0) ∈ news) (hP : Pairs news its ps) (hsh : Short ps) (hz : ps.length ≤ 1000)
   (hret : ∀ (op' : Obj) (t : Tok) (h' : Heap) (g' : Array GenState) (d' : Drawn) (tk' : Nat), TabObj op' → Fr h₀ L h' m → News h₀ L h' ((63, op') :: news) → AllBare g' → Q (.int ((ps.map pairLen).sum) t) ⟨h', g', d', tk', s.os⟩),
   wpAny (model PySem.Challenge.rw_op0008_01.row.prog w) (ktrH H dp un gd cn cs L a ccd cl outer) (call (.builtin "len") [.ref x]) Q E s := by
  w_top off
  k_fill
  intro H x dx its n tk0 t0 ps op w mean mg mb dp un gd cn cs a ccd cl outer A₀ base h₀ L m news s Q E B F X N T hk hd hu G hOn hx hop h63 hacc hdx hP hsh hz hret
  have hb := pairs_bound hsh
  refine len_K F X (inst_acc N hacc hdx) (by k_is) (by k_is) ?_
  refine len_ok H x dx its n tk0 t0 ps op w mean mg mb dp (un + 1) gd cn cs a ccd cl outer A₀ base h₀ L m news s _ _ B F X N T hk hd (by omega) G hOn hx hop h63 hacc hdx hP hsh hz ?_
  intro op' t h' g' d' tk' hop' F' N' G'
  refine ⟨⟨hb.1, by omega⟩, ?_⟩
  exact hret op' _ h' g' d' _ hop' F' N' G'
theorem way_str_ok : ∀ (H : Hv) (x dx : Addr) (its : List Value) (n : Nat) (tk0 t0 : Tok) (ps : List (Tx × Tx)) (op : Obj), ∀ (w : World) (mean : ExcName → Option Value) (mg mb : Str → Option Value)
   (dp un : Nat) (gd : Option (List Code)) (cn : Str) (cs : Scope) (a : Addr) (ccd : Value) (cl : List (Str × Addr)) (outer : List Env) (A₀ : Around) (base h₀ : Heap) (L : Addr) (m : Str → Option Value) (news : List (Addr × Obj)) (s : Shared)
    (Q E : Value → Shared → Prop)
   (B : Below A₀ base outer h₀) (F : Fr h₀ L s.heap m) (X : (hd.heap_39 w.params).In h₀) (N : News h₀ L s.heap news) (T : Top p0 loose0 mean mg mb h₀) (hk : cs.kind = .function) (hd : dp + 60 < recursionLimit) (hu : un + 700 < cLine) (G : AllBare s.gens) (hOn : H.In news) (hx : News h₀ L s.heap ((70, op) :: news)) (hop : TabObj op) (h70 : ∀ p ∈ news, p.1 ≠ 70)
   (hacc : (x, accObj dx its.toArray n) ∈ news) (hdx : (dx, sizeDict w tk0 t0) ∈ news) (hP : Pairs news its ps) (hsh : Short ps) (hz : ps.length ≤ 1000) (hS : AllS ps)
   (hret : ∀ (op' : Obj) (t : Tok) (h' : Heap) (g' : Array GenState) (d' : Drawn) (tk' : Nat), TabObj op' → Fr h₀ L h' m → News h₀ L h' ((70, op') :: news) → AllBare g' → Q (.str (strOf ps) t) ⟨h', g', d', tk', s.os⟩),
   wpAny (model PySem.Challenge.rw_op0008_01.row.prog w) (ktrH H dp un gd cn cs L a ccd cl outer) (call (.type "str") [.ref x]) Q E s := by
  w_top off
  k_fill
  intro H x dx its n tk0 t0 ps op w mean mg mb dp un gd cn cs a ccd cl outer A₀ base h₀ L m news s Q E B F X N T hk hd hu G hOn hx hop h70 hacc hdx hP hsh hz hS hret
  refine kso_call (show un + 1 + 1 < cLine by omega) (X.keeps F.keep) (inst_acc N hacc hdx) (by k_is) (by k_is) ?_
  refine str_ok H x dx its n tk0 t0 ps op w mean mg mb dp (un + 1 + 1) gd cn cs a ccd cl outer A₀ base h₀ L m news s _ _ B F X N T hk hd (by omega) G hOn hx hop h70 hacc hdx hP hsh hz hS ?_
  intro op' t h' g' d' tk' hop' F' N' G'
  exact hret op' _ h' g' d' _ hop' F' N' G'
end Mine
end
section
open PySem PySem.W PyProof.Rows
set_option maxRecDepth 100000
set_option maxHeartbeats 1000000
namespace Mine
theorem list_nd {w : World} {vs its : Array Value} {k : Nat} {tk t : Tok} : (listOf vs k).cls ≠ (sizeDict w tk t).cls := fun h => absurd (Value.type.inj h) (by decide)
theorem perm70 {h₀ h : Heap} {L : Addr} {a b : Addr × Obj} {Y : List (Addr × Obj)} (N : News h₀ L h (a :: b :: Y)) : News h₀ L h (b :: a :: Y) := fun q hq => N q (by
  simp only [List.mem_cons] at hq ⊢
  rcases hq with h | h | h <;> simp [h])
theorem in_norm2 {h₀ h : Heap} {L : Addr} {X Y : List (Addr × Obj)} {a d : Addr × Obj} (N : News h₀ L h X) (h1 : a ∈ X) (h2 : d ∈ X) (k : ∀ q ∈ X, q.1 ≠ a.1 → q.1 ≠ d.1 → q ∈ Y) : ∀ q ∈ X, q ∈ a :: d :: Y := fun q hq => by
  have same : ∀ {r : Addr × Obj}, r ∈ X → q.1 = r.1 → q = r := fun {r} hr e => by
    have e1 := (N q hq).1
    have e2 := (N r hr).1
    rw [e, e2] at e1
    exact Prod.ext e (Option.some.inj e1).symm
  by_cases e1 : q.1 = a.1
  · rw [same h1 e1]; exact .head _
  · by_cases e2 : q.1 = d.1
    · rw [same h2 e2]; exact .tail _ (.head _)
    · exact .tail _ (.tail _ (k q hq e1 e2))
theorem norm3 {h₀ hp : Heap} {L : Addr} {X : List (Addr × Obj)} {a d : Addr × Obj} (N : News h₀ L hp X) (h1 : a ∈ X) (h2 : d ∈ X) (hne : a.2.cls ≠ d.2.cls) :
    ∃ Y, News h₀ L hp (a :: d :: Y) ∧ (∀ p ∈ Y, p.1 ≠ a.1) ∧ (∀ p ∈ Y, p.1 ≠ d.1) ∧ a.1 ≠ d.1 ∧ (∀ q ∈ X, q.2.cls ≠ a.2.cls → q.2.cls ≠ d.2.cls → q ∈ Y) ∧ ∀ q ∈ X, q ∈ a :: d :: Y := by
  refine ⟨X.filter (fun p => p.1 != a.1 && p.1 != d.1), fun q hq => N q ?_, fun p hp => ?_, fun p hp => ?_, ne_of_cls N h1 h2 hne, fun q hq c1 c2 => ?_, in_norm2 N h1 h2 fun q hq c1 c2 => ?_⟩
  · simp only [List.mem_cons] at hq
    rcases hq with rfl | rfl | hq
    · exact h1
    · exact h2
    · exact (List.mem_filter.mp hq).1
  · have := (List.mem_filter.mp hp).2
    simp at this; exact this.1
  · have := (List.mem_filter.mp hp).2
    simp at this; exact this.2
  · refine List.mem_filter.mpr ⟨hq, ?_⟩
    have n1 := ne_of_cls N hq h1 c1
    have n2 := ne_of_cls N hq h2 c2
    simp [n1, n2]
  · refine List.mem_filter.mpr ⟨hq, ?_⟩
    simp [c1, c2]
theorem s_len {zs : List Str} {i : Nat} (hl : zs.length ≤ 10) : ((names (zs.take i)).map sPair).length ≤ 100 := by
  rw [List.length_map]
  have := plen_names (plen_take (i := i) hl)
  omega
theorem s_short {ns : List Str} (hp : ∀ x ∈ ns, Piece x) : Short (ns.map sPair) := fun q hq => by
  obtain ⟨x, hx, rfl⟩ := List.mem_map.mp hq
  have h1 : slash.length = 1 := by decide +kernel
  have := (hp x hx).2
  exact ⟨by show slash.length ≤ 1000; omega, by show x.length ≤ 1000; omega⟩
theorem s_alls {ns : List Str} : AllS (ns.map sPair) := fun q hq => by
  obtain ⟨x, hx, rfl⟩ := List.mem_map.mp hq
  exact ⟨_, _, rfl⟩
theorem o_short {ns : List Str} (hp : ∀ x ∈ ns, Piece x) : Short (octs ns) := fun q hq => by
  obtain ⟨x, hx, rfl⟩ := List.mem_map.mp hq
  have := (hp x hx).2
  have e : (encB x).size = x.length := encB_size x
  exact ⟨by show (1 : Nat) ≤ 1000; omega, by show (encB x).size ≤ 1000; omega⟩
theorem lw_ok : ∀ (x dx pl sl : Addr) (nn ns : Nat) (tk0 t0 t1 t2 t3 : Tok) (vs : List Value) (xs : List Str) (o1 o2 : Obj), ∀ (w : World) (mean : ExcName → Option Value) (mg mb : Str → Option Value)
   (dp un : Nat) (gd : Option (List Code)) (cn : Str) (cs : Scope) (a : Addr) (ccd : Value) (cl : List (Str × Addr)) (outer : List Env) (A₀ : Around) (base h₀ : Heap) (L : Addr) (m : Str → Option Value) (news : List (Addr × Obj)) (s : Shared)
    (Q E : Value → Shared → Prop)
   (B : Below A₀ base outer h₀) (F : Fr h₀ L s.heap m) (X : (hd.heap_39 w.params).In h₀) (N : News h₀ L s.heap news) (T : Top p0 loose0 mean mg mb h₀) (hk : cs.kind = .function) (hd : dp + 80 < recursionLimit) (hu : un + 800 < cLine) (hx : (x, accObj dx #[] 0) ∈ news) (hdx : (dx, sizeDict w tk0 t0) ∈ news) (h63 : (63, o1) ∈ news) (h70 : (70, o2) ∈ news) (T1 : TabObj o1) (T2 : TabObj o2)
   (hpl : (pl, listOf vs.toArray nn) ∈ news) (hsl : (sl, listOf [Value.str (Str.ofString "") t1, Value.str (Str.ofString ".") t2].toArray ns) ∈ news) (hvs : StrsAre vs xs) (hz : xs.length ≤ 10)
   (hret : ∀ (its : List Value) (n : Nat) (Y : List (Addr × Obj)) (h' : Heap) (tk' : Nat), Fr h₀ L h' m → News h₀ L h' ((63, o1) :: (70, o2) :: Y) → (∀ p ∈ Y, p.1 ≠ 63) → (∀ p ∈ Y, p.1 ≠ 70) → (x, accObj dx its.toArray n) ∈ Y → (dx, sizeDict w tk0 t0) ∈ Y → Pairs Y its ((names xs).map sPair) →
     (∀ q ∈ news, q.2.cls = .type "list" → q ∈ Y) → (∀ q ∈ news, q.2.cls = .type "range_iterator" → q ∈ Y) → Q .none { s with heap := h', toks := tk' }),
   wpAny (model PySem.Challenge.rw_op0008_01.row.prog w) (ktrTop dp un gd cn cs L a ccd cl outer) (call (.ref 141) [.ref x, .ref pl, .ref sl, .str (Str.ofString "..") t3]) Q E s := by
  w_top off
  k_fill
  intro x dx pl sl nn ns tk0 t0 t1 t2 t3 vs xs o1 o2 w mean mg mb dp un gd cn cs a ccd cl outer A₀ base h₀ L m news s Q E B F X N T hk hd hu hx hdx h63 h70 T1 T2 hpl hsl hvs hz hret
  obtain ⟨Z, NZ, e1, e2, e3, k1, k2⟩ := norm3 N hx hdx acc_cls_ne
  have c1 := tab_cls T1
  have c2 := tab_cls T2
  refine walk_str_ok x dx pl sl [] 0 nn ns tk0 t0 t1 t2 t3 vs xs [] w mean mg mb dp un gd cn cs a ccd cl outer A₀ base h₀ L m ((dx, sizeDict w tk0 t0) :: Z) s Q E B F X (led_tail NZ) T hk hd hu NZ (.head _) ?_ (.tail _ (k1 _ hpl list_na (list_nd (its := #[])))) (.tail _ (k1 _ hsl list_na (list_nd (its := #[])))) (txs_strs hvs) .nil (by simp; omega) ?_
  · intro p hp
    rcases List.mem_cons.mp hp with rfl | hp
    · exact Ne.symm e3
    · exact e1 p hp
  · intro its' n' tl h' tk' hP F' N' hty
    have m1 : ∀ q ∈ Z, q ∈ (x, accObj dx its'.toArray n') :: (tl ++ (dx, sizeDict w tk0 t0) :: Z) := fun q hq => .tail _ (List.mem_append.mpr (.inr (.tail _ hq)))
    have z1 : (63, o1) ∈ Z := k1 _ h63 (by rw [c1]; exact fun e => nomatch e) (by rw [c1]; exact fun e => nomatch e)
    have z2 : (70, o2) ∈ Z := k1 _ h70 (by rw [c2]; exact fun e => nomatch e) (by rw [c2]; exact fun e => nomatch e)
    obtain ⟨Y, NY, y1, y2, ky⟩ := norm N' (m1 _ z1) (m1 _ z2) T1 T2
    rw [walk_names] at hP
    refine hret its' n' Y h' tk' F' NY y1 y2 (ky _ (.head _) (fun e => nomatch e)) (ky _ (.tail _ (List.mem_append.mpr (.inr (.head _)))) (fun e => nomatch e)) (pairs_norm (hP.mono fun q hq => .tail _ hq) ky) (fun q hq hc => ky _ (m1 _ (k1 q hq (by rw [hc]; exact fun e => nomatch e) (by rw [hc]; exact fun e => absurd (Value.type.inj e) (by decide)))) (by rw [hc]; exact fun e => nomatch e)) fun q hq hc => ky _ (m1 _ (k1 q hq (by rw [hc]; exact fun e => nomatch e) (by rw [hc]; exact fun e => absurd (Value.type.inj e) (by decide)))) (by rw [hc]; exact fun e => nomatch e)
theorem law_hand : ∀ (x dx : Addr) (its : List Value) (n : Nat) (tk0 t0 : Tok) (zs : List Str) (i : Nat) (tr : Tok) (o1 o2 : Obj), ∀ (w : World) (mean : ExcName → Option Value) (mg mb : Str → Option Value)
   (dp un : Nat) (gd : Option (List Code)) (cn : Str) (cs : Scope) (a : Addr) (ccd : Value) (cl : List (Str × Addr)) (outer : List Env) (A₀ : Around) (base h₀ : Heap) (L : Addr) (m : Str → Option Value) (news : List (Addr × Obj)) (s : Shared)
    (Q E : Value → Shared → Prop)
   (B : Below A₀ base outer h₀) (F : Fr h₀ L s.heap m) (X : (hd.heap_39 w.params).In h₀) (N : News h₀ L s.heap news) (T : Top p0 loose0 mean mg mb h₀) (hk : cs.kind = .function) (TB : Top p0 loose0 mean mg mb base) (hd : dp + 200 < recursionLimit) (hu : un + 2000 < cLine) (hx : (x, accObj dx its.toArray n) ∈ news) (hdx : (dx, sizeDict w tk0 t0) ∈ news) (h63 : (63, o1) ∈ news) (h70 : (70, o2) ∈ news) (T1 : TabObj o1) (T2 : TabObj o2)
   (hP : Pairs news its ((names (zs.take i)).map sPair)) (hp : ∀ x ∈ zs, Piece x) (hl : zs.length ≤ 10)
   (hret : Ascii (textOf (names (zs.take i)) ++ Txt.join slash (zs.drop i)) → ∀ (its' : List Value) (n' : Nat) (t' : Tok) (Y : List (Addr × Obj)) (h' : Heap) (tk' : Nat), Fr h₀ L h' m → News h₀ L h' ((63, o1) :: (70, o2) :: Y) → (∀ p ∈ Y, p.1 ≠ 63) → (∀ p ∈ Y, p.1 ≠ 70) → (x, accObj dx its'.toArray n') ∈ Y → (dx, sizeDict w tk0 t') ∈ Y → Pairs Y its' (octs (names zs)) →
     (∀ q ∈ news, q.2.cls = .type "list" → q ∈ Y) → (∀ q ∈ news, q.2.cls = .type "range_iterator" → q ∈ Y) → Q .none { s with heap := h', toks := tk' })
   (hraise : ¬ Ascii (textOf (names (zs.take i)) ++ Txt.join slash (zs.drop i)) → ∀ (e : Addr) (hm h' : Heap) (tk' : Nat), Fr h₀ L hm m → hm.UpToSlots h' → RaisedX base (envX cn cs L a ccd cl :: outer) e msg0 news h' → E (.ref e) { s with heap := h', toks := tk' }),
   wpAny (model PySem.Challenge.rw_op0008_01.row.prog w) (ktrTop dp un gd cn cs L a ccd cl outer) (call (.ref 146) [.ref x, .str (Txt.join slash (zs.drop i)) tr]) Q E s := by
  w_top off
  k_fill
  intro x dx its n tk0 t0 zs i tr o1 o2 w mean mg mb dp un gd cn cs a ccd cl outer A₀ base h₀ L m news s Q E B F X N T hk TB hd hu hx hdx h63 h70 T1 T2 hP hp hl hret hraise
  obtain ⟨Z, NZ, e1, e2, e3, k1, k2⟩ := norm3 N hx hdx acc_cls_ne
  have c1 := tab_cls T1
  have c2 := tab_cls T2
  refine hand_ok x dx its n tk0 t0 ((names (zs.take i)).map sPair) (Txt.join slash (zs.drop i)) tr w mean mg mb dp un gd cn cs a ccd cl outer A₀ base h₀ L m Z s Q E B F X (led_tail (led_tail NZ)) T hk TB hd hu NZ e1 e2 e3 (hP.filter fun q hq hc => k1 q hq (by rw [hc]; exact fun e => nomatch e) (by rw [hc]; exact fun e => absurd (Value.type.inj e) (by decide))) s_alls (s_short (names_piece (take_piece hp _))) (s_len hl) (Nat.le_trans (path_len (drop_piece hp _) (plen_drop hl)) (by decide)) ?_ ?_
  · intro hA hAP its' n' t' tl h' tk' hP' F' N' hty
    have hAA := (beyond_iff (names (zs.take i)) (zs.drop i)).mpr ⟨hA, hAP⟩
    have m1 : ∀ q ∈ Z, q ∈ (x, accObj dx its'.toArray n') :: (dx, sizeDict w tk0 t') :: (tl ++ Z) := fun q hq => .tail _ (.tail _ (List.mem_append.mpr (.inr hq)))
    have z1 : (63, o1) ∈ Z := k1 _ h63 (by rw [c1]; exact fun e => nomatch e) (by rw [c1]; exact fun e => nomatch e)
    have z2 : (70, o2) ∈ Z := k1 _ h70 (by rw [c2]; exact fun e => nomatch e) (by rw [c2]; exact fun e => nomatch e)
    obtain ⟨Y, NY, y1, y2, ky⟩ := norm N' (m1 _ z1) (m1 _ z2) T1 T2
    have hka := (kept_ascii hAA).2
    rw [split_rest (drop_piece hp i) hka, octs_final hka rfl] at hP'
    refine hret hAA its' n' t' Y h' tk' F' NY y1 y2 (ky _ (.head _) (fun e => nomatch e)) (ky _ (.tail _ (.head _)) (fun e => nomatch e)) (pairs_norm (hP'.mono fun q hq => .tail _ (.tail _ hq)) ky) (fun q hq hc => ky _ (m1 _ (k1 q hq (by rw [hc]; exact fun e => nomatch e) (by rw [hc]; exact fun e => absurd (Value.type.inj e) (by decide)))) (by rw [hc]; exact fun e => nomatch e)) fun q hq hc => ky _ (m1 _ (k1 q hq (by rw [hc]; exact fun e => nomatch e) (by rw [hc]; exact fun e => absurd (Value.type.inj e) (by decide)))) (by rw [hc]; exact fun e => nomatch e)
  · intro hn e hm h' tk' F' U R
    exact hraise (fun h => hn ((beyond_iff _ _).mp h)) e hm h' tk' F' U (RaisedF.less (RaisedX.f R) k2).x
theorem law_len : ∀ (H : Hv) (x dx : Addr) (its : List Value) (n : Nat) (tk0 t0 : Tok) (ps : List (Tx × Tx)) (o1 o2 : Obj) (Y : List (Addr × Obj)), ∀ (w : World) (mean : ExcName → Option Value) (mg mb : Str → Option Value)
   (dp un : Nat) (gd : Option (List Code)) (cn : Str) (cs : Scope) (a : Addr) (ccd : Value) (cl : List (Str × Addr)) (outer : List Env) (A₀ : Around) (base h₀ : Heap) (L : Addr) (m : Str → Option Value) (news : List (Addr × Obj)) (s : Shared)
    (Q E : Value → Shared → Prop)
   (B : Below A₀ base outer h₀) (F : Fr h₀ L s.heap m) (X : (hd.heap_39 w.params).In h₀) (N : News h₀ L s.heap news) (T : Top p0 loose0 mean mg mb h₀) (hk : cs.kind = .function) (hd : dp + 60 < recursionLimit) (hu : un + 700 < cLine) (G : AllBare s.gens) (hOn : H.In Y) (hx : News h₀ L s.heap ((63, o1) :: (70, o2) :: Y)) (T1 : TabObj o1) (h63 : ∀ p ∈ Y, p.1 ≠ 63)
   (hacc : (x, accObj dx its.toArray n) ∈ Y) (hdx : (dx, sizeDict w tk0 t0) ∈ Y) (hP : Pairs Y its ps) (hsh : Short ps) (hz : ps.length ≤ 1000)
   (hret : ∀ (o1' : Obj) (t : Tok) (h' : Heap) (g' : Array GenState) (d' : Drawn) (tk' : Nat), TabObj o1' → Fr h₀ L h' m → News h₀ L h' ((63, o1') :: (70, o2) :: Y) → AllBare g' → Q (.int ((ps.map pairLen).sum) t) ⟨h', g', d', tk', s.os⟩),
   wpAny (model PySem.Challenge.rw_op0008_01.row.prog w) (ktrH H dp un gd cn cs L a ccd cl outer) (call (.builtin "len") [.ref x]) Q E s := by
  w_top off
  k_fill
  intro H x dx its n tk0 t0 ps o1 o2 Y w mean mg mb dp un gd cn cs a ccd cl outer A₀ base h₀ L m news s Q E B F X N T hk hd hu G hOn hx T1 h63 hacc hdx hP hsh hz hret
  exact way_len_ok H x dx its n tk0 t0 ps o1 w mean mg mb dp un gd cn cs a ccd cl outer A₀ base h₀ L m ((70, o2) :: Y) s Q E B F X (led_tail hx) T hk hd hu G (hOn.mono fun q hq => .tail _ hq) hx T1 (fun p hp => by
    rcases List.mem_cons.mp hp with rfl | hp
    · exact (by decide : (70 : Nat) ≠ 63)
    · exact h63 p hp) (.tail _ hacc) (.tail _ hdx) (hP.mono fun q hq => .tail _ hq) hsh hz hret
theorem law_str : ∀ (H : Hv) (x dx : Addr) (its : List Value) (n : Nat) (tk0 t0 : Tok) (ps : List (Tx × Tx)) (o1 o2 : Obj) (Y : List (Addr × Obj)), ∀ (w : World) (mean : ExcName → Option Value) (mg mb : Str → Option Value)
   (dp un : Nat) (gd : Option (List Code)) (cn : Str) (cs : Scope) (a : Addr) (ccd : Value) (cl : List (Str × Addr)) (outer : List Env) (A₀ : Around) (base h₀ : Heap) (L : Addr) (m : Str → Option Value) (news : List (Addr × Obj)) (s : Shared)
    (Q E : Value → Shared → Prop)
   (B : Below A₀ base outer h₀) (F : Fr h₀ L s.heap m) (X : (hd.heap_39 w.params).In h₀) (N : News h₀ L s.heap news) (T : Top p0 loose0 mean mg mb h₀) (hk : cs.kind = .function) (hd : dp + 60 < recursionLimit) (hu : un + 700 < cLine) (G : AllBare s.gens) (hOn : H.In Y) (hx : News h₀ L s.heap ((63, o1) :: (70, o2) :: Y)) (T2 : TabObj o2) (h70 : ∀ p ∈ Y, p.1 ≠ 70)
   (hacc : (x, accObj dx its.toArray n) ∈ Y) (hdx : (dx, sizeDict w tk0 t0) ∈ Y) (hP : Pairs Y its ps) (hsh : Short ps) (hz : ps.length ≤ 1000) (hS : AllS ps)
   (hret : ∀ (o2' : Obj) (t : Tok) (h' : Heap) (g' : Array GenState) (d' : Drawn) (tk' : Nat), TabObj o2' → Fr h₀ L h' m → News h₀ L h' ((63, o1) :: (70, o2') :: Y) → AllBare g' → Q (.str (strOf ps) t) ⟨h', g', d', tk', s.os⟩),
   wpAny (model PySem.Challenge.rw_op0008_01.row.prog w) (ktrH H dp un gd cn cs L a ccd cl outer) (call (.type "str") [.ref x]) Q E s := by
  w_top off
  k_fill
  intro H x dx its n tk0 t0 ps o1 o2 Y w mean mg mb dp un gd cn cs a ccd cl outer A₀ base h₀ L m news s Q E B F X N T hk hd hu G hOn hx T2 h70 hacc hdx hP hsh hz hS hret
  exact way_str_ok H x dx its n tk0 t0 ps o2 w mean mg mb dp un gd cn cs a ccd cl outer A₀ base h₀ L m ((63, o1) :: Y) s Q E B F X (led_tail (perm70 hx)) T hk hd hu G (hOn.mono fun q hq => .tail _ hq) (perm70 hx) T2 (fun p hp => by
    rcases List.mem_cons.mp hp with rfl | hp
    · exact (by decide : (63 : Nat) ≠ 70)
    · exact h70 p hp) (.tail _ hacc) (.tail _ hdx) (hP.mono fun q hq => .tail _ hq) hsh hz hS fun o2' t h' g' d' tk' T' F' N' G' => hret o2' t h' g' d' tk' T' F' (perm70 N') G'
end Mine
end
section
open PySem PySem.W PyProof.Rows PySem.Calls
set_option maxRecDepth 100000
set_option maxHeartbeats 1000000
namespace Mine
theorem small_strs {vs : List Value} {xs : List Str} (h : StrsAre vs xs) (k : xs.length ≤ 10) : vs.length ≤ 1000 := by rw [strs_len h]; omega
theorem piece_short {xs : List Str} (h : ∀ x ∈ xs, Piece x) : ∀ x ∈ xs, x.length ≤ 1000 := fun x hx => by have := (h x hx).2; omega
theorem both_len {a b : Str} (h1 : a.length ≤ 40) (h2 : b.length ≤ 40) : a.length + b.length ≤ 1000 := by omega
theorem count_eq {Y : List (Addr × Obj)} {its us : List Value} {ns : List Str} (hP : Pairs Y its (ns.map sPair)) (hu : StrsAre us ns) : ((its.toArray.size : Nat) : Int) = ((us.toArray.size : Nat) : Int) := by
  have h1 := hP.len
  rw [List.length_map] at h1
  rw [List.size_toArray, List.size_toArray, strs_len hu]; omega
theorem size_small {Y : List (Addr × Obj)} {its : List Value} {ps : List (Tx × Tx)} (hP : Pairs Y its ps) (h : ps.length ≤ 1000) : its.toArray.size ≤ sizeLine := by
  have h1 := hP.len
  rw [List.size_toArray, sizeLine_eq]; omega
theorem s_len2 {ns : List Str} (h : ns.length ≤ 10) : (ns.map sPair).length ≤ 1000 := by rw [List.length_map]; omega
theorem o_len2 {ns : List Str} (h : ns.length ≤ 10) : (octs ns).length ≤ 1000 := by rw [octs_len]; omega
theorem its_len {Y : List (Addr × Obj)} {its : List Value} {ns : List Str} (hP : Pairs Y its (octs ns)) (h : ns.length ≤ 10) : its.length ≤ 1000 := by
  have h1 := hP.len
  rw [octs_len] at h1; omega
section
variable {prog : Program} {w : World} {A : Around} {E : Value → Shared → Prop} {s : Shared} {h₀ : Heap} {L : Addr} {m : Str → Option Value} {news : List (Addr × Obj)}
theorem ne_nil_asc {l b : Addr} {vs : List Value} {n n' : Nat} {z : Str} {Q : Value → Shared → Prop} (N : News h₀ L s.heap news) (hl : (l, listOf vs.toArray n) ∈ news) (hb : (b, listOf #[] n') ∈ news) (hu : A.units < cLine) (hAs : vs = [] ↔ Ascii z)
    (h : ∀ k : Bool, (k = true ↔ ¬ Ascii z) → Q (.bool k) s) : wpAny (model prog w) A (compareOp .NotEq (.ref l) (.ref b)) Q E s :=
  ne_nil_list N hl hb hu (h _ (by rw [← hAs]; simp))
theorem split_law {zs : List Str} {t u : Tok} {Q : Value → Shared → Prop} (F : Fr h₀ L s.heap m) (N : News h₀ L s.heap news) (h0 : zs.length = 9) (hp : ∀ x ∈ zs, Piece x)
    (h : ∀ D vs h' k, Fr h₀ L h' m → News h₀ L h' ((D, listOf (List.toArray vs) 0) :: news) → StrsAre vs zs → (∀ p ∈ news, p.1 < D) → Q (.ref D) { s with heap := h', toks := k }) :
    wpAny (model prog w) A (call (.builtin "str.split") [.str (Txt.join slash zs) t, .str slash u]) Q E s := by
  refine splitN1A F N (by decide +kernel) (fun l h' k e hs _ _ F' N' => ?_) (by have := path_len hp (by omega); rw [sizeLine_eq]; omega)
  rw [split_path (by intro z; rw [z] at h0; cases h0) hp] at e
  rw [e] at hs
  exact h _ _ h' k F' N' hs fun p hp => Heap.lt_size (N p hp).1
end
end Mine
end
section
open PySem PySem.W PyProof.Rows PySem.Calls
set_option maxRecDepth 100000
set_option maxHeartbeats 1000000
namespace Mine
theorem asc_false {k : Bool} {z : Str} (h : k = true ↔ ¬ Ascii z) (ha : Ascii z) : k = false := by
  cases k with
  | false => rfl
  | true => exact absurd ha (h.mp rfl)
theorem asc_true {k : Bool} {z : Str} (h : k = true ↔ ¬ Ascii z) (ha : ¬ Ascii z) : k = true := h.mpr ha
theorem mem_kept_list {X Y : List (Addr × Obj)} {a : Addr} {vs : Array Value} {n : Nat} (k : ∀ q ∈ X, q.2.cls = .type "list" → q ∈ Y) (h : (a, listOf vs n) ∈ X) : (a, listOf vs n) ∈ Y := k _ h rfl
theorem mem_kept_rg {X Y : List (Addr × Obj)} {a : Addr} {i j : Int} (k : ∀ q ∈ X, q.2.cls = .type "range_iterator" → q ∈ Y) (h : (a, rgObj i j) ∈ X) : (a, rgObj i j) ∈ Y := k _ h rfl
theorem news5 {h₀ hp : Heap} {L : Addr} {X : List (Addr × Obj)} {a b c d e : Addr × Obj} (N : News h₀ L hp X) (h1 : a ∈ X) (h2 : b ∈ X) (h3 : c ∈ X) (h4 : d ∈ X) (h5 : e ∈ X) : News h₀ L hp [a, b, c, d, e] :=
  List.forall_mem_cons.mpr ⟨N _ h1, List.forall_mem_cons.mpr ⟨N _ h2, List.forall_mem_cons.mpr ⟨N _ h3, List.forall_mem_cons.mpr ⟨N _ h4, List.forall_mem_cons.mpr ⟨N _ h5, fun _ h => nomatch h⟩⟩⟩⟩⟩
theorem mv5 {α : Type} {a b c d e : α} {Y : List α} : ∀ q ∈ a :: b :: c :: d :: e :: Y, q ∈ c :: d :: e :: a :: b :: Y :=
  List.forall_mem_cons.mpr ⟨.tail _ (.tail _ (.tail _ (.head _))), List.forall_mem_cons.mpr ⟨.tail _ (.tail _ (.tail _ (.tail _ (.head _)))), List.forall_mem_cons.mpr ⟨.head _, List.forall_mem_cons.mpr ⟨.tail _ (.head _), List.forall_mem_cons.mpr ⟨.tail _ (.tail _ (.head _)), fun _ h => .tail _ (.tail _ (.tail _ (.tail _ (.tail _ h))))⟩⟩⟩⟩⟩
theorem norm_x {h₀ hp : Heap} {L e u t : Addr} {oe ou o1 o2 : Obj} {msg : Str} {tm : Tok} {Y : List (Addr × Obj)} (N : News h₀ L hp ((e, oe) :: (u, ou) :: (t, tupObj [.str msg tm]) :: (63, o1) :: (70, o2) :: Y))
    (hIn : Hv.In (.two e u) ((e, oe) :: (u, ou) :: (t, tupObj [.str msg tm]) :: (63, o1) :: (70, o2) :: Y)) (hG : Got ((e, oe) :: (u, ou) :: (t, tupObj [.str msg tm]) :: (63, o1) :: (70, o2) :: Y) e t (.type "ValueError") [.str msg tm]) (T1 : TabObj o1) (T2 : TabObj o2) (y1 : ∀ p ∈ Y, p.1 ≠ 63) (y2 : ∀ p ∈ Y, p.1 ≠ 70) :
    News h₀ L hp ((63, o1) :: (70, o2) :: (e, oe) :: (u, ou) :: (t, tupObj [.str msg tm]) :: Y) ∧ (∀ p ∈ (e, oe) :: (u, ou) :: (t, tupObj [.str msg tm]) :: Y, p.1 ≠ 63) ∧ (∀ p ∈ (e, oe) :: (u, ou) :: (t, tupObj [.str msg tm]) :: Y, p.1 ≠ 70) ∧
      Hv.In (.two e u) ((e, oe) :: (u, ou) :: (t, tupObj [.str msg tm]) :: Y) ∧ Got ((e, oe) :: (u, ou) :: (t, tupObj [.str msg tm]) :: Y) e t (.type "ValueError") [.str msg tm] := by
  have uniq : ∀ {a : Addr} {o o' : Obj}, (a, o) ∈ ((e, oe) :: (u, ou) :: (t, tupObj [.str msg tm]) :: (63, o1) :: (70, o2) :: Y) → (a, o') ∈ ((e, oe) :: (u, ou) :: (t, tupObj [.str msg tm]) :: (63, o1) :: (70, o2) :: Y) → o = o' := fun h1 h2 => by
    have e1 := (N _ h1).1
    have e2 := (N _ h2).1
    dsimp only at e1 e2
    rw [e1] at e2
    exact Option.some.inj e2
  obtain ⟨⟨p1, q1, i1, i2, i3⟩, ⟨p2, q2, j1, j2, j3⟩, hne⟩ := hIn
  obtain ⟨oe', ot, ws, nt, g1, g2, g3, g4, g5, g6, g7⟩ := hG
  obtain rfl := uniq i1 (.head _)
  obtain rfl := uniq j1 (.tail _ (.head _))
  obtain rfl := uniq g1 (.head _)
  obtain rfl := uniq g2 (.tail _ (.tail _ (.head _)))
  have m63 : ∀ (o : Obj) (P : Addr), TabObj o → (P, o) ∈ ((e, oe') :: (u, p2) :: (t, tupObj [.str msg tm]) :: (63, o1) :: (70, o2) :: Y) → e ≠ P ∧ u ≠ P ∧ t ≠ P := fun o P hT hm => by
    refine ⟨fun z => ?_, fun z => ?_, fun z => ?_⟩
    · subst z
      have := uniq hm (.head _)
      rw [this] at hT
      rw [tab_cls hT] at g3; cases g3
    · subst z
      have := uniq hm (.tail _ (.head _))
      rw [this] at hT
      exact tab_ctx hT j2 j3
    · subst z
      have := uniq hm (.tail _ (.tail _ (.head _)))
      rw [this] at hT
      have := tab_cls hT
      cases this
  obtain ⟨a1, a2, a3⟩ := m63 _ 63 T1 (.tail _ (.tail _ (.tail _ (.head _))))
  obtain ⟨b1, b2, b3⟩ := m63 _ 70 T2 (.tail _ (.tail _ (.tail _ (.tail _ (.head _)))))
  refine ⟨fun q hq => N q ?_, ?_, ?_, ⟨⟨_, q1, .head _, i2, i3⟩, ⟨_, q2, .tail _ (.head _), j2, j3⟩, hne⟩, ⟨_, _, ws, nt, .head _, .tail _ (.tail _ (.head _)), g3, g4, g5, g6, g7⟩⟩
  · exact mv5 q hq
  · exact List.forall_mem_cons.mpr ⟨a1, List.forall_mem_cons.mpr ⟨a2, List.forall_mem_cons.mpr ⟨a3, y1⟩⟩⟩
  · exact List.forall_mem_cons.mpr ⟨b1, List.forall_mem_cons.mpr ⟨b2, List.forall_mem_cons.mpr ⟨b3, y2⟩⟩⟩
end Mine
end
section
open PySem PySem.W PyProof.Rows PySem.Calls
set_option maxRecDepth 100000
set_option maxHeartbeats 1000000
namespace Mine
section
variable {prog : Program} {w : World} {A : Around} {E : Value → Shared → Prop} {s : Shared} {h₀ : Heap} {L : Addr} {m : Str → Option Value} {news : List (Addr × Obj)}
theorem len_text {ns : List Str} {t : Tok} {Q : Value → Shared → Prop} (hp : ∀ x ∈ ns, Piece x) (hn : ns.length ≤ 10) (h : ∀ t' tk, Q (.int ((textOf ns).length : Int) t') { s with toks := tk }) :
    wpAny (model prog w) A (call (.builtin "len") [.str (textOf ns) t]) Q E s :=
  PyProof.Rows.len_str (by have := text_len hp hn; omega) (h _ _)
theorem len_strs {l : Addr} {vs : List Value} {xs : List Str} {n : Nat} {Q : Value → Shared → Prop} (N : News h₀ L s.heap news) (hl : (l, listOf vs.toArray n) ∈ news) (hi : StrsAre vs xs) (hn : xs.length ≤ 10) (h : ∀ t' tk, Q (.int (vs.toArray.size : Int) t') { s with toks := tk }) :
    wpAny (model prog w) A (call (.builtin "len") [.ref l]) Q E s :=
  Calls.call_len_list (News.isList N hl) (by rw [List.size_toArray, strs_len hi]; omega) (h _ _)
end
end Mine
end
section
open PySem PySem.W PyProof.Rows
set_option maxRecDepth 100000
set_option maxHeartbeats 1000000
namespace Mine
def lawFn : List Stmt × Scope := match PySem.Challenge.pw_op0008_01.main.body.getLast? with
  | some (Stmt.FunctionDef _ _ b _ _ _ sc _ _ _) => (b, sc)
  | _ => ([], default)
def turnBody : List Stmt := match (lawFn.1[4]? : Option Stmt) with
  | some (Stmt.For _ _ b _ _) => b
  | _ => []
theorem turn_head : turnBody.length = 8 := by rfl
end Mine
end
section
open PySem PySem.W PyProof.Rows
set_option maxRecDepth 100000
set_option maxHeartbeats 1000000
namespace Mine
def stt (k : Nat) : Stmt := turnBody.getD k (.Pass ⟨0, 0, 0, 0⟩)
theorem turn_stts : turnBody = [stt 0, stt 1, stt 2, stt 3, stt 4, stt 5, stt 6, stt 7] := by rfl
/-- the law's names that no turn writes -/
abbrev restMap (p q k : Option Value) (m₀ : Str → Option Value) : Str → Option Value := fun y => if y = Str.ofString "pieces" then p else if y = Str.ofString "path" then q else if y = Str.ofString "kept" then k else m₀ y
theorem rest_map {m₀ : Str → Option Value} {p q k : Option Value} (h1 : m₀ (Str.ofString "pieces") = p) (h2 : m₀ (Str.ofString "path") = q) (h3 : m₀ (Str.ofString "kept") = k) : m₀ = restMap p q k m₀ := by
  funext y
  unfold restMap
  by_cases e1 : y = Str.ofString "pieces"
  · rw [if_pos e1, ← h1, e1]
  rw [if_neg e1]
  by_cases e2 : y = Str.ofString "path"
  · rw [if_pos e2, ← h2, e2]
  rw [if_neg e2]
  by_cases e3 : y = Str.ofString "kept"
  · rw [if_pos e3, ← h3, e3]
  rw [if_neg e3]
section
variable {a b c d e f g v : Option Value} {m₀ : Str → Option Value}
theorem ov_names : (fun y => if y = Str.ofString "names" then v else overMap a b c d e f g m₀ y) = overMap a v c d e f g m₀ := by
  funext y
  unfold overMap
  by_cases e1 : y = Str.ofString "names"
  · subst e1; rw [if_pos rfl, if_neg (by decide +kernel), if_pos rfl]
  · simp only [if_neg e1]
theorem ov_text : (fun y => if y = Str.ofString "text" then v else overMap a b c d e f g m₀ y) = overMap a b v d e f g m₀ := by
  funext y
  unfold overMap
  by_cases e1 : y = Str.ofString "text"
  · subst e1; rw [if_pos rfl, if_neg (by decide +kernel), if_neg (by decide +kernel), if_pos rfl]
  · simp only [if_neg e1]
theorem ov_rest : (fun y => if y = Str.ofString "rest" then v else overMap a b c d e f g m₀ y) = overMap a b c v e f g m₀ := by
  funext y
  unfold overMap
  by_cases e1 : y = Str.ofString "rest"
  · subst e1; rw [if_pos rfl, if_neg (by decide +kernel), if_neg (by decide +kernel), if_neg (by decide +kernel), if_pos rfl]
  · simp only [if_neg e1]
theorem ov_beyond : (fun y => if y = Str.ofString "beyond" then v else overMap a b c d e f g m₀ y) = overMap a b c d v f g m₀ := by
  funext y
  unfold overMap
  by_cases e1 : y = Str.ofString "beyond"
  · subst e1; rw [if_pos rfl, if_neg (by decide +kernel), if_neg (by decide +kernel), if_neg (by decide +kernel), if_neg (by decide +kernel), if_pos rfl]
  · simp only [if_neg e1]
theorem ov_way : (fun y => if y = Str.ofString "way" then v else overMap a b c d e f g m₀ y) = overMap a b c d e v g m₀ := by
  funext y
  unfold overMap
  by_cases e1 : y = Str.ofString "way"
  · subst e1; rw [if_pos rfl, if_neg (by decide +kernel), if_neg (by decide +kernel), if_neg (by decide +kernel), if_neg (by decide +kernel), if_neg (by decide +kernel), if_pos rfl]
  · simp only [if_neg e1]
theorem ov_over {p q k : Option Value} {m : Str → Option Value} : Over (restMap p q k m) (overMap a b c d e f g (restMap p q k m)) := fun y hy => by
  simp only [List.mem_cons, List.not_mem_nil, or_false, not_or] at hy
  obtain ⟨h1, h2, h3, h4, h5, h6, h7⟩ := hy
  unfold overMap
  rw [if_neg h1, if_neg h2, if_neg h3, if_neg h4, if_neg h5, if_neg h6, if_neg h7]
end
section
variable {a b c d e f g v : Option Value} {m₀ : Str → Option Value} {h₀ h : Heap} {L : Addr}
theorem fr_names (F : Fr h₀ L h (fun y => if y = Str.ofString "names" then v else overMap a b c d e f g m₀ y)) : Fr h₀ L h (overMap a v c d e f g m₀) := ov_names (a := a) (b := b) ▸ F
theorem fr_text (F : Fr h₀ L h (fun y => if y = Str.ofString "text" then v else overMap a b c d e f g m₀ y)) : Fr h₀ L h (overMap a b v d e f g m₀) := ov_text (a := a) (b := b) ▸ F
theorem fr_rest (F : Fr h₀ L h (fun y => if y = Str.ofString "rest" then v else overMap a b c d e f g m₀ y)) : Fr h₀ L h (overMap a b c v e f g m₀) := ov_rest (a := a) (b := b) ▸ F
theorem fr_beyond (F : Fr h₀ L h (fun y => if y = Str.ofString "beyond" then v else overMap a b c d e f g m₀ y)) : Fr h₀ L h (overMap a b c d v f g m₀) := ov_beyond (a := a) (b := b) ▸ F
theorem fr_way (F : Fr h₀ L h (fun y => if y = Str.ofString "way" then v else overMap a b c d e f g m₀ y)) : Fr h₀ L h (overMap a b c d e v g m₀) := ov_way (a := a) (b := b) ▸ F
end
/-- fewer entries -/
theorem news_sub {h₀ hp : Heap} {L : Addr} {X Y : List (Addr × Obj)} (N : News h₀ L hp X) (k : ∀ q ∈ Y, q ∈ X) : News h₀ L hp Y := fun q hq => N q (k q hq)
end Mine
end
end
section
open PySem PySem.W PyProof.Rows Mine
local macro_rules | `(tactic| ktr_room) => `(tactic| k_dflt (first | exact room2 (by assumption) (by decide) | exact room1 (by assumption) (by decide) | exact room3 (by assumption) (by decide)))
local macro_rules | `(tactic| ktr_units) => `(tactic| k_dflt (first | exact room2 (by assumption) (by decide) | exact room1 (by assumption) (by decide) | exact room3 (by assumption) (by decide)))
local macro_rules | `(tactic| units_room) => `(tactic| k_dflt (first | exact room2 (by assumption) (by decide) | exact room1 (by assumption) (by decide) | exact room3 (by assumption) (by decide)))
local macro_rules | `(tactic| k_all) => `(tactic| first | assumption | exact allLt_ne (by assumption) | exact lt_ne (by assumption) | exact allLt_ne (And.right (by assumption)))
local macro_rules | `(tactic| k_inst) => `(tactic| (refine' inst_acc ?N ?h1 ?h2; (case N => k_asm); (case h1 => k_mem); (case h2 => k_mem)))
local macro_rules | `(tactic| k_mem) => `(tactic| first | assumption | ((fail_if_success (with_reducible show _ ∈ ([] : List _))); first | (with_reducible exact List.mem_cons_self) | (with_reducible exact List.mem_cons_of_mem _ (by k_mem)) | ((with_reducible show _ ∈ (_ ++ _ : List _)); first | exact List.mem_append.mpr (.inr (by k_mem)) | exact List.mem_append.mpr (.inl (by k_mem))) | (with_reducible exact mem_kept_list (by assumption) (by k_mem)) | (with_reducible exact mem_kept_rg (by assumption) (by k_mem))))
local macro_rules | `(tactic| walk_at "MY plen") => `(tactic| first | omega | ((with_reducible refine plen_take ?_); walk_at "MY plen") | ((with_reducible refine plen_drop ?_); walk_at "MY plen") | ((with_reducible refine plen_names ?_); walk_at "MY plen"))
local macro_rules | `(tactic| walk_at "MY pmem") => `(tactic| first | with_reducible assumption | ((with_reducible refine names_piece ?_); walk_at "MY pmem") | ((with_reducible refine take_piece ?_ _); walk_at "MY pmem") | ((with_reducible refine drop_piece ?_ _); walk_at "MY pmem"))
local macro_rules | `(tactic| walk_at "MY sub") => `(tactic| first | (with_reducible exact List.forall_mem_nil _) | ((with_reducible refine List.forall_mem_cons.mpr ⟨by k_mem, ?_⟩); walk_at "MY sub"))
section
open PySem PySem.W PyProof.Rows
set_option maxRecDepth 100000
set_option maxHeartbeats 4000000
namespace Mine




theorem s0_ok : ∀ (st : Stmt) (w : World) (mean : ExcName → Option Value) (mg mb : Str → Option Value)
   (dp un : Nat) (gd : Option (List Code)) (cn : Str) (cs : Scope) (a : Addr) (ccd : Value) (cl : List (Str × Addr)) (outer : List Env) (A₀ : Around) (base h₀ : Heap) (L : Addr) (s : Shared) (Q : Flow → Shared → Prop) (E : Value → Shared → Prop)
   (i : Nat) (t tp : Tok) (I pl kl : Addr) (av bv cv dv ev fv gv : Option Value) (o1 o2 : Obj) (m₀ : Str → Option Value) (zs : List Str) (vs us : List Value) (nn nu n : Nat)
   (h1 : st = stt 0) (h2 : cs = lawFn.2) (B : Below A₀ base outer h₀) (X : (hd.heap_39 w.params).In h₀) (T : Top p0 loose0 mean mg mb h₀) (TB : Top p0 loose0 mean mg mb base) (hd : dp + 400 < recursionLimit) (hu : un + 4000 < cLine)
   (hvs : StrsAre vs zs) (hus : StrsAre us (names zs)) (hzl : zs.length = 9) (hzp : ∀ x ∈ zs, Piece x) (hi : i < 10) (G : AllBare s.gens) (T1 : TabObj o1) (T2 : TabObj o2)
   (F : Fr h₀ L s.heap (overMap (some (.int (i : Int) t)) bv cv dv ev fv gv (restMap (some (.ref pl)) (some (.str (Txt.join slash zs) tp)) (some (.ref kl)) m₀)))
   (N : News h₀ L s.heap [(63, o1), (70, o2), (I, rgObj ((i : Int) + 1) ((n : Int) - i - 1)), (pl, listOf vs.toArray nn), (kl, listOf us.toArray nu)])
   (hret : ∀ (r : Addr) (ws : List Value) (nw : Nat) (h' : Heap) (tk' : Nat), Fr h₀ L h' (overMap (some (.int (i : Int) t)) (some (.ref r)) cv dv ev fv gv (restMap (some (.ref pl)) (some (.str (Txt.join slash zs) tp)) (some (.ref kl)) m₀)) → News h₀ L h' [(r, listOf ws.toArray nw), (63, o1), (70, o2), (I, rgObj ((i : Int) + 1) ((n : Int) - i - 1)), (pl, listOf vs.toArray nn), (kl, listOf us.toArray nu)] → StrsAre ws (names (zs.take i)) → Q .next { s with heap := h', toks := tk' }),
   wpAny (model PySem.Challenge.rw_op0008_01.row.prog w) (ktrTop dp un gd cn cs L a ccd cl outer) (exec st (envX cn cs L a ccd cl)) Q E s := by
  w_top off
  k_fill
  intro st w mean mg mb dp un gd cn cs a ccd cl outer A₀ base h₀ L s Q E i t tp I pl kl av bv cv dv ev fv gv o1 o2 m₀ zs vs us nn nu n  h1 h2 B X T TB hd hu hvs hus hzl hzp hi G T1 T2 F N hret
  unfold stt turnBody lawFn PySem.Challenge.pw_op0008_01 at h1
  unfold lawFn PySem.Challenge.pw_op0008_01 at h2
  dsimp only [List.getLast?, List.getLast, List.getElem?_cons_zero, List.getElem?_cons_succ, List.getD, Option.getD_some] at h1 h2
  subst h1 h2
  repeat' (first
    | (first
      | ((with_reducible show wpAny _ _ (subscriptTail _ _ (Value.ref _) (Value.ref _)) _ _ _); k_here; k_dflt (refine' slice_upto_strs ?F ?N ?hl ?hi ?hz ?_ ?s ?t; (case F => k_asm); (case N => k_asm); (case hl => k_mem); (case hi => assumption); (case hz => exact Nat.le_trans (m := 10) (by walk_at "MY plen") (by decide)); (case s => with_unfolding_all rfl); (case t => kmk_pure)); intro D9 h9 F9 N9 hS9 l9; (try k_lt l9); (try k_sweep))
      | ((with_reducible show wpAny _ _ (call (Value.ref _) _) _ _ _); k_here; k_dflt (show wpAny _ _ (call (Value.ref 134) [Value.ref _]) _ _ _); k_dflt (refine' kept_ok _ _ _ _ _ _ _ _ _ _ _ _ _ _ _ _ _ _ _ _ _ _ _ _ _ _ ?k1 ?k2 ?k3 ?k4 ?k5 ?kK ?kd ?ku ?hpl ?hvs ?hlen ?_; (case k1 => k_asm); (case k2 => k_asm); (case k3 => k_asm); (case k4 => k_asm); (case k5 => k_asm); (case kK => first | exact rfl | assumption); (case hpl => k_mem); (case hvs => assumption); (case hlen => exact Nat.le_trans (m := 10) (by walk_at "MY plen") (by decide)); (case kd => ktr_room); (case ku => ktr_units)); intro r9 us9 nu9 h9 tk9 hu9 F9 N9 l9; k_dflt (change StrsAre _ (names _) at hu9); (try k_lt l9); (try dsimp only); (try k_fold)))
    | (k_unfold; (try dsimp only)) | (k_end; kc_close) | walk1 | (dsimp only; walk1) | (leave1; (try dsimp only)) | fail "no step")
  (refine' hret _ _ _ _ _ ?F ?N ?h; (case F => exact fr_names (by k_asm)); (case N => exact news_sub (by k_asm) (by walk_at "MY sub")); (case h => assumption))
theorem s1_ok : ∀ (st : Stmt) (w : World) (mean : ExcName → Option Value) (mg mb : Str → Option Value)
   (dp un : Nat) (gd : Option (List Code)) (cn : Str) (cs : Scope) (a : Addr) (ccd : Value) (cl : List (Str × Addr)) (outer : List Env) (A₀ : Around) (base h₀ : Heap) (L : Addr) (s : Shared) (Q : Flow → Shared → Prop) (E : Value → Shared → Prop)
   (i : Nat) (t tp : Tok) (I pl kl : Addr) (av bv cv dv ev fv gv : Option Value) (o1 o2 : Obj) (m₀ : Str → Option Value) (zs : List Str) (vs us : List Value) (nn nu n : Nat) (r : Addr) (ws : List Value) (nw : Nat)
   (h1 : st = stt 1) (h2 : cs = lawFn.2) (B : Below A₀ base outer h₀) (X : (hd.heap_39 w.params).In h₀) (T : Top p0 loose0 mean mg mb h₀) (TB : Top p0 loose0 mean mg mb base) (hd : dp + 400 < recursionLimit) (hu : un + 4000 < cLine)
   (hvs : StrsAre vs zs) (hus : StrsAre us (names zs)) (hzl : zs.length = 9) (hzp : ∀ x ∈ zs, Piece x) (hi : i < 10) (G : AllBare s.gens) (T1 : TabObj o1) (T2 : TabObj o2)
   (F : Fr h₀ L s.heap (overMap (some (.int (i : Int) t)) (some (.ref r)) cv dv ev fv gv (restMap (some (.ref pl)) (some (.str (Txt.join slash zs) tp)) (some (.ref kl)) m₀)))
   (N : News h₀ L s.heap [(r, listOf ws.toArray nw), (63, o1), (70, o2), (I, rgObj ((i : Int) + 1) ((n : Int) - i - 1)), (pl, listOf vs.toArray nn), (kl, listOf us.toArray nu)])
   (hws : StrsAre ws (names (zs.take i))) (hret : ∀ (tx : Tok) (h' : Heap) (tk' : Nat), Fr h₀ L h' (overMap (some (.int (i : Int) t)) (some (.ref r)) (some (.str (textOf (names (zs.take i))) tx)) dv ev fv gv (restMap (some (.ref pl)) (some (.str (Txt.join slash zs) tp)) (some (.ref kl)) m₀)) → News h₀ L h' [(r, listOf ws.toArray nw), (63, o1), (70, o2), (I, rgObj ((i : Int) + 1) ((n : Int) - i - 1)), (pl, listOf vs.toArray nn), (kl, listOf us.toArray nu)] → Q .next { s with heap := h', toks := tk' }),
   wpAny (model PySem.Challenge.rw_op0008_01.row.prog w) (ktrTop dp un gd cn cs L a ccd cl outer) (exec st (envX cn cs L a ccd cl)) Q E s := by
  w_top off
  k_fill
  intro st w mean mg mb dp un gd cn cs a ccd cl outer A₀ base h₀ L s Q E i t tp I pl kl av bv cv dv ev fv gv o1 o2 m₀ zs vs us nn nu n r ws nw h1 h2 B X T TB hd hu hvs hus hzl hzp hi G T1 T2 F N hws hret
  unfold stt turnBody lawFn PySem.Challenge.pw_op0008_01 at h1
  unfold lawFn PySem.Challenge.pw_op0008_01 at h2
  dsimp only [List.getLast?, List.getLast, List.getElem?_cons_zero, List.getElem?_cons_succ, List.getD, Option.getD_some] at h1 h2
  subst h1 h2
  repeat' (first
    | (first
      | ((with_reducible show wpAny _ _ (eval (PySem.Expr.ListComp _ _ _ _) _) _ _ _); k_here; (with_reducible show wpAny _ _ (eval (PySem.Expr.ListComp (PySem.Expr.BinOp (PySem.Expr.Constant (PySem.Const.str _) _ _) _ _ _) _ _ _) _) _ _ _); k_dflt (refine' text_comp ?hh ?F ?N ?hek ?hes ?hsd ?hLe ?hms ?hclos ?hcell ?hkind ?hnames ?hx ?hyd ?hl ?hi ?hz ?hsh ?hQt1; (case hh => exact rfl); (case F => k_asm); (case N => k_asm); (case hek => exact rfl); (case hes => exact rfl); (case hsd => decide); (case hLe => exact rfl); (case hms => exact rfl); (case hclos => exact rfl); (case hcell => decide); (case hkind => exact rfl); (case hnames => decide); (case hx => exact rfl); (case hyd => decide); (case hl => k_mem); (case hi => assumption); (case hz => exact small_strs (by assumption) (by walk_at "MY plen")); (case hsh => exact piece_short (by walk_at "MY pmem"))); (case' hQt1 => intro ys9 D9 h9 tk9 hys9 F9 N9 off9; (try dsimp only); (try k_fold)))
      | ((with_reducible show wpAny _ _ (call (Value.builtin "str.join") _) _ _ _); k_here; (try dsimp only [List.cons_append, List.nil_append]); (with_reducible show wpAny _ _ (call (Value.builtin _) [Value.str _ _, Value.ref _]) _ _ _); k_dflt (refine' join_strs ?N ?hl ?hi ?hsep ?hw ?_; (case N => k_asm); (case hl => k_mem); (case hi => assumption); (case hsep => decide +kernel); (case hw => first | exact piece_sum (by walk_at "MY pmem") (by walk_at "MY plen") | exact slash_sum (by walk_at "MY pmem") (by walk_at "MY plen"))); intro t9 k9))
    | (k_unfold; (try dsimp only)) | (k_end; kc_close) | walk1 | (dsimp only; walk1) | (leave1; (try dsimp only)) | fail "no step")
  (refine' hret _ _ _ ?F ?N; (case F => exact fr_text (by k_asm)); (case N => exact news_sub (by k_asm) (by walk_at "MY sub")))
theorem s2_ok : ∀ (st : Stmt) (w : World) (mean : ExcName → Option Value) (mg mb : Str → Option Value)
   (dp un : Nat) (gd : Option (List Code)) (cn : Str) (cs : Scope) (a : Addr) (ccd : Value) (cl : List (Str × Addr)) (outer : List Env) (A₀ : Around) (base h₀ : Heap) (L : Addr) (s : Shared) (Q : Flow → Shared → Prop) (E : Value → Shared → Prop)
   (i : Nat) (t tp : Tok) (I pl kl : Addr) (av bv cv dv ev fv gv : Option Value) (o1 o2 : Obj) (m₀ : Str → Option Value) (zs : List Str) (vs us : List Value) (nn nu n : Nat) (r : Addr) (ws : List Value) (nw : Nat) (tx : Tok)
   (h1 : st = stt 2) (h2 : cs = lawFn.2) (B : Below A₀ base outer h₀) (X : (hd.heap_39 w.params).In h₀) (T : Top p0 loose0 mean mg mb h₀) (TB : Top p0 loose0 mean mg mb base) (hd : dp + 400 < recursionLimit) (hu : un + 4000 < cLine)
   (hvs : StrsAre vs zs) (hus : StrsAre us (names zs)) (hzl : zs.length = 9) (hzp : ∀ x ∈ zs, Piece x) (hi : i < 10) (G : AllBare s.gens) (T1 : TabObj o1) (T2 : TabObj o2)
   (F : Fr h₀ L s.heap (overMap (some (.int (i : Int) t)) (some (.ref r)) (some (.str (textOf (names (zs.take i))) tx)) dv ev fv gv (restMap (some (.ref pl)) (some (.str (Txt.join slash zs) tp)) (some (.ref kl)) m₀)))
   (N : News h₀ L s.heap [(r, listOf ws.toArray nw), (63, o1), (70, o2), (I, rgObj ((i : Int) + 1) ((n : Int) - i - 1)), (pl, listOf vs.toArray nn), (kl, listOf us.toArray nu)])
   (hret : ∀ (tr : Tok) (h' : Heap) (tk' : Nat), Fr h₀ L h' (overMap (some (.int (i : Int) t)) (some (.ref r)) (some (.str (textOf (names (zs.take i))) tx)) (some (.str (Txt.join slash (zs.drop i)) tr)) ev fv gv (restMap (some (.ref pl)) (some (.str (Txt.join slash zs) tp)) (some (.ref kl)) m₀)) → News h₀ L h' [(r, listOf ws.toArray nw), (63, o1), (70, o2), (I, rgObj ((i : Int) + 1) ((n : Int) - i - 1)), (pl, listOf vs.toArray nn), (kl, listOf us.toArray nu)] → Q .next { s with heap := h', toks := tk' }),
   wpAny (model PySem.Challenge.rw_op0008_01.row.prog w) (ktrTop dp un gd cn cs L a ccd cl outer) (exec st (envX cn cs L a ccd cl)) Q E s := by
  w_top off
  k_fill
  intro st w mean mg mb dp un gd cn cs a ccd cl outer A₀ base h₀ L s Q E i t tp I pl kl av bv cv dv ev fv gv o1 o2 m₀ zs vs us nn nu n r ws nw tx h1 h2 B X T TB hd hu hvs hus hzl hzp hi G T1 T2 F N hret
  unfold stt turnBody lawFn PySem.Challenge.pw_op0008_01 at h1
  unfold lawFn PySem.Challenge.pw_op0008_01 at h2
  dsimp only [List.getLast?, List.getLast, List.getElem?_cons_zero, List.getElem?_cons_succ, List.getD, Option.getD_some] at h1 h2
  subst h1 h2
  repeat' (first
    | (first
      | ((with_reducible show wpAny _ _ (subscriptTail _ _ (Value.ref _) (Value.ref _)) _ _ _); k_here; k_dflt (refine' slice_from_strs ?F ?N ?hl ?hi ?hz ?_ ?s ?t; (case F => k_asm); (case N => k_asm); (case hl => k_mem); (case hi => assumption); (case hz => exact Nat.le_trans (m := 10) (by walk_at "MY plen") (by decide)); (case s => with_unfolding_all rfl); (case t => kmk_pure)); intro D9 h9 F9 N9 hS9 l9; (try k_lt l9); (try k_sweep))
      | ((with_reducible show wpAny _ _ (call (Value.builtin "str.join") _) _ _ _); k_here; (try dsimp only [List.cons_append, List.nil_append]); (with_reducible show wpAny _ _ (call (Value.builtin _) [Value.str _ _, Value.ref _]) _ _ _); k_dflt (refine' join_strs ?N ?hl ?hi ?hsep ?hw ?_; (case N => k_asm); (case hl => k_mem); (case hi => assumption); (case hsep => decide +kernel); (case hw => first | exact piece_sum (by walk_at "MY pmem") (by walk_at "MY plen") | exact slash_sum (by walk_at "MY pmem") (by walk_at "MY plen"))); intro t9 k9))
    | (k_unfold; (try dsimp only)) | (k_end; kc_close) | walk1 | (dsimp only; walk1) | (leave1; (try dsimp only)) | fail "no step")
  (refine' hret _ _ _ ?F ?N; (case F => exact fr_rest (by k_asm)); (case N => exact news_sub (by k_asm) (by walk_at "MY sub")))
end Mine
end
section
open PySem PySem.W PyProof.Rows
set_option maxRecDepth 100000
set_option maxHeartbeats 4000000
namespace Mine




theorem s3_ok : ∀ (st : Stmt) (w : World) (mean : ExcName → Option Value) (mg mb : Str → Option Value)
   (dp un : Nat) (gd : Option (List Code)) (cn : Str) (cs : Scope) (a : Addr) (ccd : Value) (cl : List (Str × Addr)) (outer : List Env) (A₀ : Around) (base h₀ : Heap) (L : Addr) (s : Shared) (Q : Flow → Shared → Prop) (E : Value → Shared → Prop)
   (i : Nat) (t tp : Tok) (I pl kl : Addr) (av bv cv dv ev fv gv : Option Value) (o1 o2 : Obj) (m₀ : Str → Option Value) (zs : List Str) (vs us : List Value) (nn nu n : Nat) (r : Addr) (ws : List Value) (nw : Nat) (tx tr : Tok)
   (h1 : st = stt 3) (h2 : cs = lawFn.2) (B : Below A₀ base outer h₀) (X : (hd.heap_39 w.params).In h₀) (T : Top p0 loose0 mean mg mb h₀) (TB : Top p0 loose0 mean mg mb base) (hd : dp + 400 < recursionLimit) (hu : un + 4000 < cLine)
   (hvs : StrsAre vs zs) (hus : StrsAre us (names zs)) (hzl : zs.length = 9) (hzp : ∀ x ∈ zs, Piece x) (hi : i < 10) (G : AllBare s.gens) (T1 : TabObj o1) (T2 : TabObj o2)
   (F : Fr h₀ L s.heap (overMap (some (.int (i : Int) t)) (some (.ref r)) (some (.str (textOf (names (zs.take i))) tx)) (some (.str (Txt.join slash (zs.drop i)) tr)) ev fv gv (restMap (some (.ref pl)) (some (.str (Txt.join slash zs) tp)) (some (.ref kl)) m₀)))
   (N : News h₀ L s.heap [(r, listOf ws.toArray nw), (63, o1), (70, o2), (I, rgObj ((i : Int) + 1) ((n : Int) - i - 1)), (pl, listOf vs.toArray nn), (kl, listOf us.toArray nu)])
   (hret : ∀ (by9 : Bool) (h' : Heap) (tk' : Nat), (by9 = true ↔ ¬ Ascii (textOf (names (zs.take i)) ++ Txt.join slash (zs.drop i))) → Fr h₀ L h' (overMap (some (.int (i : Int) t)) (some (.ref r)) (some (.str (textOf (names (zs.take i))) tx)) (some (.str (Txt.join slash (zs.drop i)) tr)) (some (.bool by9)) fv gv (restMap (some (.ref pl)) (some (.str (Txt.join slash zs) tp)) (some (.ref kl)) m₀)) → News h₀ L h' [(r, listOf ws.toArray nw), (63, o1), (70, o2), (I, rgObj ((i : Int) + 1) ((n : Int) - i - 1)), (pl, listOf vs.toArray nn), (kl, listOf us.toArray nu)] → Q .next { s with heap := h', toks := tk' }),
   wpAny (model PySem.Challenge.rw_op0008_01.row.prog w) (ktrTop dp un gd cn cs L a ccd cl outer) (exec st (envX cn cs L a ccd cl)) Q E s := by
  w_top off
  k_fill
  intro st w mean mg mb dp un gd cn cs a ccd cl outer A₀ base h₀ L s Q E i t tp I pl kl av bv cv dv ev fv gv o1 o2 m₀ zs vs us nn nu n r ws nw tx tr h1 h2 B X T TB hd hu hvs hus hzl hzp hi G T1 T2 F N hret
  unfold stt turnBody lawFn PySem.Challenge.pw_op0008_01 at h1
  unfold lawFn PySem.Challenge.pw_op0008_01 at h2
  dsimp only [List.getLast?, List.getLast, List.getElem?_cons_zero, List.getElem?_cons_succ, List.getD, Option.getD_some] at h1 h2
  subst h1 h2
  repeat' (first
    | (first
      | ((with_reducible show wpAny _ _ (compareOp CmpOp.NotEq (Value.ref _) (Value.ref _)) _ _ _); k_here; k_dflt (refine' ne_nil_asc ?N ?hl ?hb ?hu ?hAs ?_; (case N => k_asm); (case hAs => assumption); (case hl => k_mem); (case hb => k_mem); (case hu => ktr_units)); intro b9 hb9)
      | ((with_reducible show wpAny _ _ (eval (PySem.Expr.ListComp _ _ _ _) _) _ _ _); k_here; (with_reducible show wpAny _ _ (eval (PySem.Expr.ListComp (PySem.Expr.Name _ _) [⟨_, PySem.Expr.BinOp _ _ _ _, _, _⟩] _ _) _) _ _ _); k_dflt (refine' beyond_comp ?hh ?F ?N ?T ?hg ?hb ?hek ?hes ?hsd ?het ?htd ?hLe ?hms ?hmt ?hog ?hob ?hfree ?hcell ?hkind ?hnames ?hx ?hxd ?hxo ?hz ?hQt3; (case hh => exact rfl); (case F => k_asm); (case N => k_asm); (case T => assumption); (case hg => exact rfl); (case hb => exact rfl); (case hek => exact rfl); (case hes => exact rfl); (case hsd => decide); (case het => exact rfl); (case htd => decide); (case hLe => exact rfl); (case hms => exact rfl); (case hmt => exact rfl); (case hog => exact top_none (by assumption) (by decide +kernel) (by decide +kernel)); (case hob => exact top_boot (by assumption) (by decide +kernel) (by decide +kernel)); (case hfree => decide); (case hcell => decide); (case hkind => exact rfl); (case hnames => decide); (case hx => exact rfl); (case hxd => decide); (case hxo => exact rfl); (case hz => exact both_len (text_len (by walk_at "MY pmem") (by walk_at "MY plen")) (path_len (by walk_at "MY pmem") (by walk_at "MY plen")))); (case' hQt3 => intro D9 ys9 n9 h9 tk9 F9 N9 off9 hAs9 hyl9; (try dsimp only); (try k_fold))))
    | (k_unfold; (try dsimp only)) | (k_end; kc_close) | walk1 | (dsimp only; walk1) | (leave1; (try dsimp only)) | fail "no step")
  (refine' hret _ _ _ ?h ?F ?N; (case F => exact fr_beyond (by k_asm)); (case N => exact news_sub (by k_asm) (by walk_at "MY sub")); (case h => assumption))
theorem s4_ok : ∀ (st : Stmt) (w : World) (mean : ExcName → Option Value) (mg mb : Str → Option Value)
   (dp un : Nat) (gd : Option (List Code)) (cn : Str) (cs : Scope) (a : Addr) (ccd : Value) (cl : List (Str × Addr)) (outer : List Env) (A₀ : Around) (base h₀ : Heap) (L : Addr) (s : Shared) (Q : Flow → Shared → Prop) (E : Value → Shared → Prop)
   (i : Nat) (t tp : Tok) (I pl kl : Addr) (av bv cv dv ev fv gv : Option Value) (o1 o2 : Obj) (m₀ : Str → Option Value) (zs : List Str) (vs us : List Value) (nn nu n : Nat) (r : Addr) (ws : List Value) (nw : Nat) (tx tr : Tok) (by9 : Bool)
   (h1 : st = stt 4) (h2 : cs = lawFn.2) (B : Below A₀ base outer h₀) (X : (hd.heap_39 w.params).In h₀) (T : Top p0 loose0 mean mg mb h₀) (TB : Top p0 loose0 mean mg mb base) (hd : dp + 400 < recursionLimit) (hu : un + 4000 < cLine)
   (hvs : StrsAre vs zs) (hus : StrsAre us (names zs)) (hzl : zs.length = 9) (hzp : ∀ x ∈ zs, Piece x) (hi : i < 10) (G : AllBare s.gens) (T1 : TabObj o1) (T2 : TabObj o2)
   (F : Fr h₀ L s.heap (overMap (some (.int (i : Int) t)) (some (.ref r)) (some (.str (textOf (names (zs.take i))) tx)) (some (.str (Txt.join slash (zs.drop i)) tr)) (some (.bool by9)) fv gv (restMap (some (.ref pl)) (some (.str (Txt.join slash zs) tp)) (some (.ref kl)) m₀)))
   (N : News h₀ L s.heap [(r, listOf ws.toArray nw), (63, o1), (70, o2), (I, rgObj ((i : Int) + 1) ((n : Int) - i - 1)), (pl, listOf vs.toArray nn), (kl, listOf us.toArray nu)])
   (hret : ∀ (x dx : Addr) (tk0 t0 : Tok) (h' : Heap) (tk' : Nat), Fr h₀ L h' (overMap (some (.int (i : Int) t)) (some (.ref r)) (some (.str (textOf (names (zs.take i))) tx)) (some (.str (Txt.join slash (zs.drop i)) tr)) (some (.bool by9)) (some (.ref x)) gv (restMap (some (.ref pl)) (some (.str (Txt.join slash zs) tp)) (some (.ref kl)) m₀)) → News h₀ L h' [(x, accObj dx #[] 0), (dx, sizeDict w tk0 t0), (r, listOf ws.toArray nw), (63, o1), (70, o2), (I, rgObj ((i : Int) + 1) ((n : Int) - i - 1)), (pl, listOf vs.toArray nn), (kl, listOf us.toArray nu)] → Q .next { s with heap := h', toks := tk' }),
   wpAny (model PySem.Challenge.rw_op0008_01.row.prog w) (ktrTop dp un gd cn cs L a ccd cl outer) (exec st (envX cn cs L a ccd cl)) Q E s := by
  w_top off
  k_fill
  intro st w mean mg mb dp un gd cn cs a ccd cl outer A₀ base h₀ L s Q E i t tp I pl kl av bv cv dv ev fv gv o1 o2 m₀ zs vs us nn nu n r ws nw tx tr by9 h1 h2 B X T TB hd hu hvs hus hzl hzp hi G T1 T2 F N hret
  unfold stt turnBody lawFn PySem.Challenge.pw_op0008_01 at h1
  unfold lawFn PySem.Challenge.pw_op0008_01 at h2
  dsimp only [List.getLast?, List.getLast, List.getElem?_cons_zero, List.getElem?_cons_succ, List.getD, Option.getD_some] at h1 h2
  subst h1 h2
  repeat' (first
    | (first
      | ((with_reducible show wpAny _ _ (call (Value.ref _) _) _ _ _); k_here; k_dflt (show wpAny _ _ (call (Value.ref 101) []) _ _ _); k_dflt (refine' make_ok _ _ _ _ _ _ _ _ _ _ _ _ _ _ _ _ _ _ _ _ _ _ ?k1 ?k2 ?k3 ?k4 ?k5 ?kK ?kd ?ku ?_; (case k1 => k_asm); (case k2 => k_asm); (case k3 => k_asm); (case k4 => k_asm); (case k5 => k_asm); (case kK => first | exact rfl | assumption); (case kd => ktr_room); (case ku => ktr_units)); intro x9 dx9 tk09 t09 h9 tk9 F9 N9 l9 lx9; (try k_lt l9); (try dsimp only); (try k_fold)))
    | (k_unfold; (try dsimp only)) | (k_end; kc_close) | walk1 | (dsimp only; walk1) | (leave1; (try dsimp only)) | fail "no step")
  (refine' hret _ _ _ _ _ _ ?F ?N; (case F => exact fr_way (by k_asm)); (case N => exact news_sub (by k_asm) (by walk_at "MY sub")))
end Mine
end
section
open PySem PySem.W PyProof.Rows
set_option maxRecDepth 100000
set_option maxHeartbeats 4000000
namespace Mine




theorem s5_ok : ∀ (st : Stmt) (w : World) (mean : ExcName → Option Value) (mg mb : Str → Option Value)
   (dp un : Nat) (gd : Option (List Code)) (cn : Str) (cs : Scope) (a : Addr) (ccd : Value) (cl : List (Str × Addr)) (outer : List Env) (A₀ : Around) (base h₀ : Heap) (L : Addr) (s : Shared) (Q : Flow → Shared → Prop) (E : Value → Shared → Prop)
   (i : Nat) (t tp : Tok) (I pl kl : Addr) (av bv cv dv ev fv gv : Option Value) (o1 o2 : Obj) (m₀ : Str → Option Value) (zs : List Str) (vs us : List Value) (nn nu n : Nat) (r : Addr) (ws : List Value) (nw : Nat) (tx tr : Tok) (by9 : Bool) (x dx : Addr) (tk0 t0 : Tok)
   (h1 : st = stt 5) (h2 : cs = lawFn.2) (B : Below A₀ base outer h₀) (X : (hd.heap_39 w.params).In h₀) (T : Top p0 loose0 mean mg mb h₀) (TB : Top p0 loose0 mean mg mb base) (hd : dp + 400 < recursionLimit) (hu : un + 4000 < cLine)
   (hvs : StrsAre vs zs) (hus : StrsAre us (names zs)) (hzl : zs.length = 9) (hzp : ∀ x ∈ zs, Piece x) (hi : i < 10) (G : AllBare s.gens) (T1 : TabObj o1) (T2 : TabObj o2)
   (F : Fr h₀ L s.heap (overMap (some (.int (i : Int) t)) (some (.ref r)) (some (.str (textOf (names (zs.take i))) tx)) (some (.str (Txt.join slash (zs.drop i)) tr)) (some (.bool by9)) (some (.ref x)) gv (restMap (some (.ref pl)) (some (.str (Txt.join slash zs) tp)) (some (.ref kl)) m₀)))
   (N : News h₀ L s.heap [(x, accObj dx #[] 0), (dx, sizeDict w tk0 t0), (r, listOf ws.toArray nw), (63, o1), (70, o2), (I, rgObj ((i : Int) + 1) ((n : Int) - i - 1)), (pl, listOf vs.toArray nn), (kl, listOf us.toArray nu)])
   (hret : ∀ (its : List Value) (na : Nat) (Y : List (Addr × Obj)) (h' : Heap) (tk' : Nat), Fr h₀ L h' (overMap (some (.int (i : Int) t)) (some (.ref r)) (some (.str (textOf (names (zs.take i))) tx)) (some (.str (Txt.join slash (zs.drop i)) tr)) (some (.bool by9)) (some (.ref x)) gv (restMap (some (.ref pl)) (some (.str (Txt.join slash zs) tp)) (some (.ref kl)) m₀)) → News h₀ L h' ((63, o1) :: (70, o2) :: Y) → (∀ p ∈ Y, p.1 ≠ 63) → (∀ p ∈ Y, p.1 ≠ 70) → (x, accObj dx its.toArray na) ∈ Y → (dx, sizeDict w tk0 t0) ∈ Y → Pairs Y its ((names (zs.take i)).map sPair) →
     (I, rgObj ((i : Int) + 1) ((n : Int) - i - 1)) ∈ Y → (pl, listOf vs.toArray nn) ∈ Y → (kl, listOf us.toArray nu) ∈ Y → (r, listOf ws.toArray nw) ∈ Y → Q .next { s with heap := h', toks := tk' }),
   wpAny (model PySem.Challenge.rw_op0008_01.row.prog w) (ktrTop dp un gd cn cs L a ccd cl outer) (exec st (envX cn cs L a ccd cl)) Q E s := by
  w_top off
  k_fill
  intro st w mean mg mb dp un gd cn cs a ccd cl outer A₀ base h₀ L s Q E i t tp I pl kl av bv cv dv ev fv gv o1 o2 m₀ zs vs us nn nu n r ws nw tx tr by9 x dx tk0 t0 h1 h2 B X T TB hd hu hvs hus hzl hzp hi G T1 T2 F N hret
  unfold stt turnBody lawFn PySem.Challenge.pw_op0008_01 at h1
  unfold lawFn PySem.Challenge.pw_op0008_01 at h2
  dsimp only [List.getLast?, List.getLast, List.getElem?_cons_zero, List.getElem?_cons_succ, List.getD, Option.getD_some] at h1 h2
  subst h1 h2
  repeat' (first
    | (first
      | ((with_reducible show wpAny _ _ (call (Value.ref _) _) _ _ _); k_here; k_dflt (show wpAny _ _ (call (Value.ref 141) [_, _, _, _]) _ _ _); k_dflt (refine' lw_ok _ _ _ _ _ _ _ _ _ _ _ _ _ _ _ _ _ _ _ _ _ _ _ _ _ _ _ _ _ _ _ _ _ _ _ _ _ ?k1 ?k2 ?k3 ?k4 ?k5 ?kK ?kd ?ku ?hx ?hdx ?h63 ?h70 ?T1 ?T2 ?hpl ?hsl ?hvs ?hz ?_; (case k1 => k_asm); (case k2 => k_asm); (case k3 => k_asm); (case k4 => k_asm); (case k5 => k_asm); (case kK => first | exact rfl | assumption); (case hx => k_mem); (case hdx => k_mem); (case h63 => k_mem); (case h70 => k_mem); (case T1 => assumption); (case T2 => assumption); (case hpl => k_mem); (case hsl => k_mem); (case hvs => assumption); (case hz => walk_at "MY plen"); (case kd => ktr_room); (case ku => ktr_units)); intro its9 n9 Y9 h9 tk9 F9 N9 y19 y29 hx9 hdx9 hP9 kl9 kr9; (try dsimp only); (try k_fold))
      | ((with_reducible show wpAny _ _ (call (Value.builtin "str.split") _) _ _ _); k_here; k_dflt (refine' split_law ?F ?N ?h0 ?hp ?_; (case F => k_asm); (case N => k_asm); (case h0 => assumption); (case hp => assumption)); intro D9 vs9 h9 k9 F9 N9 hS9 l9; (try k_lt l9); (try k_sweep))
      | ((with_reducible show wpAny _ _ (subscriptTail _ _ (Value.ref _) (Value.ref _)) _ _ _); k_here; k_dflt (refine' slice_upto_strs ?F ?N ?hl ?hi ?hz ?_ ?s ?t; (case F => k_asm); (case N => k_asm); (case hl => k_mem); (case hi => assumption); (case hz => exact Nat.le_trans (m := 10) (by walk_at "MY plen") (by decide)); (case s => with_unfolding_all rfl); (case t => kmk_pure)); intro D9 h9 F9 N9 hS9 l9; (try k_lt l9); (try k_sweep))
      | ((with_reducible show wpAny _ _ (call (Value.ref _) _) _ _ _); k_here; k_dflt (show wpAny _ _ (call (Value.ref 120) [Value.str _ _]) _ _ _); k_dflt (refine' sep_str_ok _ _ _ _ _ _ _ _ _ _ _ _ _ _ _ _ _ _ _ _ _ _ _ _ ?k1 ?k2 ?k3 ?k4 ?k5 ?kK ?kd ?ku ?_; (case k1 => k_asm); (case k2 => k_asm); (case k3 => k_asm); (case k4 => k_asm); (case k5 => k_asm); (case kK => first | exact rfl | assumption); (case kd => ktr_room); (case ku => ktr_units); intro t9 h9 tk9 F9 N9; (try dsimp only); (try k_fold))))
    | (k_unfold; (try dsimp only)) | (k_end; kc_close) | walk1 | (dsimp only; walk1) | (leave1; (try dsimp only)) | fail "no step")
  (refine' hret _ _ _ _ _ ?F ?N ?h1 ?h2 ?h3 ?h4 ?h5 ?m1 ?m2 ?m3 ?m4; (case F => k_asm); (case N => k_asm); (case h1 => assumption); (case h2 => assumption); (case h3 => assumption); (case h4 => assumption); (case h5 => assumption); (case m1 => k_mem); (case m2 => k_mem); (case m3 => k_mem); (case m4 => k_mem))
end Mine
end
section
open PySem PySem.W PyProof.Rows
set_option maxRecDepth 100000
set_option maxHeartbeats 4000000
namespace Mine




theorem s6_ok : ∀ (st : Stmt) (w : World) (mean : ExcName → Option Value) (mg mb : Str → Option Value)
   (dp un : Nat) (gd : Option (List Code)) (cn : Str) (cs : Scope) (a : Addr) (ccd : Value) (cl : List (Str × Addr)) (outer : List Env) (A₀ : Around) (base h₀ : Heap) (L : Addr) (s : Shared) (Q : Flow → Shared → Prop) (E : Value → Shared → Prop)
   (i : Nat) (t tp : Tok) (I pl kl : Addr) (av bv cv dv ev fv gv : Option Value) (o1 o2 : Obj) (m₀ : Str → Option Value) (zs : List Str) (vs us : List Value) (nn nu n : Nat) (r : Addr) (ws : List Value) (nw : Nat) (tx tr : Tok) (by9 : Bool) (x dx : Addr) (tk0 t0 : Tok) (its : List Value) (na : Nat) (Y : List (Addr × Obj))
   (h1 : st = stt 6) (h2 : cs = lawFn.2) (B : Below A₀ base outer h₀) (X : (hd.heap_39 w.params).In h₀) (T : Top p0 loose0 mean mg mb h₀) (TB : Top p0 loose0 mean mg mb base) (hd : dp + 400 < recursionLimit) (hu : un + 4000 < cLine)
   (hvs : StrsAre vs zs) (hus : StrsAre us (names zs)) (hzl : zs.length = 9) (hzp : ∀ x ∈ zs, Piece x) (hi : i < 10) (G : AllBare s.gens) (T1 : TabObj o1) (T2 : TabObj o2)
   (F : Fr h₀ L s.heap (overMap (some (.int (i : Int) t)) (some (.ref r)) (some (.str (textOf (names (zs.take i))) tx)) (some (.str (Txt.join slash (zs.drop i)) tr)) (some (.bool by9)) (some (.ref x)) gv (restMap (some (.ref pl)) (some (.str (Txt.join slash zs) tp)) (some (.ref kl)) m₀)))
   (N : News h₀ L s.heap ((63, o1) :: (70, o2) :: Y)) (hY1 : ∀ p ∈ Y, p.1 ≠ 63) (hY2 : ∀ p ∈ Y, p.1 ≠ 70) (hx : (x, accObj dx its.toArray na) ∈ Y) (hdx : (dx, sizeDict w tk0 t0) ∈ Y) (hP : Pairs Y its ((names (zs.take i)).map sPair))
   (hI : (I, rgObj ((i : Int) + 1) ((n : Int) - i - 1)) ∈ Y) (hpl : (pl, listOf vs.toArray nn) ∈ Y) (hkl : (kl, listOf us.toArray nu) ∈ Y) (hr : (r, listOf ws.toArray nw) ∈ Y) (hws : StrsAre ws (names (zs.take i)))
   (hret : ∀ (o1' o2' : Obj) (h' : Heap) (g' : Array GenState) (d' : Drawn) (tk' : Nat), TabObj o1' → TabObj o2' → AllBare g' → Fr h₀ L h' (overMap (some (.int (i : Int) t)) (some (.ref r)) (some (.str (textOf (names (zs.take i))) tx)) (some (.str (Txt.join slash (zs.drop i)) tr)) (some (.bool by9)) (some (.ref x)) gv (restMap (some (.ref pl)) (some (.str (Txt.join slash zs) tp)) (some (.ref kl)) m₀)) → News h₀ L h' ((63, o1') :: (70, o2') :: Y) → Q .next ⟨h', g', d', tk', s.os⟩),
   wpAny (model PySem.Challenge.rw_op0008_01.row.prog w) (ktrTop dp un gd cn cs L a ccd cl outer) (exec st (envX cn cs L a ccd cl)) Q E s := by
  w_top off
  k_fill
  intro st w mean mg mb dp un gd cn cs a ccd cl outer A₀ base h₀ L s Q E i t tp I pl kl av bv cv dv ev fv gv o1 o2 m₀ zs vs us nn nu n r ws nw tx tr by9 x dx tk0 t0 its na Y h1 h2 B X T TB hd hu hvs hus hzl hzp hi G T1 T2 F N hY1 hY2 hx hdx hP hI hpl hkl hr hws hret
  unfold stt turnBody lawFn PySem.Challenge.pw_op0008_01 at h1
  unfold lawFn PySem.Challenge.pw_op0008_01 at h2
  dsimp only [List.getLast?, List.getLast, List.getElem?_cons_zero, List.getElem?_cons_succ, List.getD, Option.getD_some] at h1 h2
  subst h1 h2
  repeat' (first
    | (first
      | ((with_reducible show wpAny _ _ (call (Value.builtin "len") _) _ _ _); k_here; (with_reducible show wpAny _ _ (call (Value.builtin _) [Value.ref _]) _ _ _); k_dflt (refine' len_strs ?N ?hl ?hi ?hn ?_; (case N => k_asm); (case hl => k_mem); (case hi => assumption); (case hn => walk_at "MY plen")); intro t9 k9)
      | ((with_reducible show wpAny _ _ (call (Value.builtin "len") _) _ _ _); k_here; (with_reducible show wpAny _ _ (call (Value.builtin _) [Value.str _ _]) _ _ _); k_dflt (refine' len_text ?hp ?hn ?_; (case hp => walk_at "MY pmem"); (case hn => walk_at "MY plen")); intro t9 k9)
      | ((with_reducible show wpAny _ _ (call (Value.ref _) _) _ _ _); k_here; k_dflt (show wpAny _ _ (call (Value.ref 98) [Value.ref _]) _ _ _); k_dflt (refine' part_count_ok _ _ _ _ _ _ _ _ _ _ _ _ _ _ _ _ _ _ _ _ _ _ _ _ _ _ _ _ ?k1 ?k2 ?k3 ?k4 ?k5 ?kK ?kd ?ku ?hx ?hdx ?hz ?_; (case k1 => k_asm); (case k2 => k_asm); (case k3 => k_asm); (case k4 => k_asm); (case k5 => k_asm); (case kK => first | exact rfl | assumption); (case hx => k_mem); (case hdx => k_mem); (case hz => exact size_small (by assumption) (s_len2 (by walk_at "MY plen"))); (case kd => ktr_room); (case ku => ktr_units)); intro t9 h9 tk9 F9 N9; (try dsimp only); (try k_fold))
      | ((with_reducible show wpAny _ _ (compareOp CmpOp.NotEq (Value.int _ _) (Value.int _ _)) _ _ _); k_here; k_dflt (refine' ne_same_int ?e ?_; (case e => first | with_reducible exact sum_len _ | with_reducible exact sum_octs _ | with_reducible exact count_eq (by assumption) (by assumption))))
      | ((with_reducible show wpAny _ _ (compareOp CmpOp.NotEq (Value.str _ _) (Value.str _ _)) _ _ _); k_here; k_dflt (refine' ne_same_str ?e ?_; (case e => first | with_reducible exact strOf_text _ | exact rfl)))
      | ((with_reducible show wpAny _ _ (call (Value.builtin "len") _) _ _ _); k_here; k_dflt (refine' law_len Hv.no _ _ _ _ _ _ _ _ _ _ _ _ _ _ _ _ _ _ _ _ _ _ _ _ _ _ _ _ _ _ _ _ ?k1 ?k2 ?k3 ?k4 ?k5 ?kK ?kd ?ku ?G ?hOn ?hx ?TT ?hPP ?hacc ?hdx ?hP ?hsh ?hz ?_; (case k1 => k_asm); (case k2 => k_asm); (case k3 => k_asm); (case k4 => k_asm); (case k5 => k_asm); (case kK => first | exact rfl | assumption); (case hx => k_asm); (case G => assumption); (case TT => assumption); (case hPP => assumption); (case hOn => first | exact trivial | assumption); (case hacc => k_mem); (case hdx => k_mem); (case hP => first | assumption | exact Pairs.mono (by assumption) (fun q hq => .tail _ (.tail _ (.tail _ hq)))); (case hsh => first | ((with_reducible refine s_short ?_); walk_at "MY pmem") | ((with_reducible refine o_short ?_); walk_at "MY pmem")); (case hz => first | ((with_reducible refine s_len2 ?_); walk_at "MY plen") | ((with_reducible refine o_len2 ?_); walk_at "MY plen")); (case kd => ktr_room); (case ku => ktr_units)); intro o9 t9 h9 g9 d9 tk9 T9 F9 N9 G9; (try dsimp only); (try k_fold))
      | ((with_reducible show wpAny _ _ (call (Value.type "str") _) _ _ _); k_here; k_dflt (refine' law_str Hv.no _ _ _ _ _ _ _ _ _ _ _ _ _ _ _ _ _ _ _ _ _ _ _ _ _ _ _ _ _ _ _ _ ?k1 ?k2 ?k3 ?k4 ?k5 ?kK ?kd ?ku ?G ?hOn ?hx ?TT ?hPP ?hacc ?hdx ?hP ?hsh ?hz ?hS ?_; (case k1 => k_asm); (case k2 => k_asm); (case k3 => k_asm); (case k4 => k_asm); (case k5 => k_asm); (case kK => first | exact rfl | assumption); (case hx => k_asm); (case G => assumption); (case TT => assumption); (case hPP => assumption); (case hOn => first | exact trivial | assumption); (case hacc => k_mem); (case hdx => k_mem); (case hP => first | assumption | exact Pairs.mono (by assumption) (fun q hq => .tail _ (.tail _ (.tail _ hq)))); (case hsh => first | ((with_reducible refine s_short ?_); walk_at "MY pmem") | ((with_reducible refine o_short ?_); walk_at "MY pmem")); (case hz => first | ((with_reducible refine s_len2 ?_); walk_at "MY plen") | ((with_reducible refine o_len2 ?_); walk_at "MY plen")); (case hS => exact s_alls); (case kd => ktr_room); (case ku => ktr_units)); intro o9 t9 h9 g9 d9 tk9 T9 F9 N9 G9; (try dsimp only); (try k_fold))
      | ((with_reducible show wpAny _ _ (getMethod (Value.ref _) _ _) _ _ _); k_here; k_dflt (refine' getm_accF ?k1 ?k2 ?k3 ?k4 ?k5 ?k6 ?k7 ?_; (case k1 => k_asm); (case k2 => k_asm); (case k3 => k_inst); (case k4 => kernel_rfl); (case k5 => k_is); (case k6 => k_is); (case k7 => k_get); k_whole)))
    | (k_unfold; (try dsimp only)) | (k_end; kc_close) | walk1 | (dsimp only; walk1) | (leave1; (try dsimp only)) | fail "no step")
  (refine' hret _ _ _ _ _ _ ?a ?b ?c ?F ?N; (case F => k_asm); (case N => k_asm); (case a => assumption); (case b => assumption); (case c => assumption))
end Mine
end
section
open PySem PySem.W PyProof.Rows PySem.Calls
set_option maxRecDepth 100000
set_option maxHeartbeats 1000000
namespace Mine
theorem gone {M : Model} {A : Around} {E : Value → Shared → Prop} {s : Shared} {env : Env} {n : Str} {pos : Pos} {h₀ : Heap} {L : Addr} {m : Str → Option Value} {news : List (Addr × Obj)} {Q : Unit → Shared → Prop}
    (hl : env.kindOf n = some .local) (hLe : env.locals = L) (hk : env.scope.kind = .function) (F : Fr h₀ L s.heap m) (N : News h₀ L s.heap news)
    (h : ∀ h' v k, Fr h₀ L h' (fun y => if y = n then v else m y) → News h₀ L h' news → Q () { s with heap := h', toks := k }) :
    wpAny M A (do bindName env n .none; unbindBehindTheSuite env n pos) Q E s := by
  subst hLe
  have hp : (env.scope.kind == .class || (env.scope.kind == .module && env.locals != env.globals)) = false := by rw [hk]; rfl
  refine wpAny_bind (wpAny_bindName (wpAny_storeName_local hl F.ns (fun h₁ hn₁ hs₁ => ?_) hp))
  unfold unbindBehindTheSuite
  refine wpAny_onRaise ?_
  unfold unbindName
  refine wpAny_bind (wpAny_point (wpAny_bind ?_))
  unfold deleteName
  simp only [hl, hp]
  rw [if_neg (by decide)]
  refine wpAny_bind (wpAny_nsDel_keeps hn₁ fun h₂ v hn₂ hs₂ => ?_)
  simp only [if_true, Option.isSome_some, Bool.not_true, Bool.false_eq_true, if_false]
  refine wpAny_pure (wpAny_point ?_)
  have e : (fun x => if x = n then v else if x = n then some Value.none else m x) = fun y => if y = n then v else m y := by
    funext y
    by_cases e1 : y = n
    · rw [if_pos e1, if_pos e1]
    · rw [if_neg e1, if_neg e1, if_neg e1]
  exact h h₂ v _ ((F.set hn₁ hs₁).set (e ▸ hn₂) hs₂) ((N.set hs₁).set hs₂)
theorem cut_pairs {h₀ h : Heap} {L : Addr} {d e a b : Addr × Obj} {tl Y : List (Addr × Obj)} (N : News h₀ L h (d :: (tl ++ e :: a :: b :: Y))) : News h₀ L h (a :: b :: Y) := fun q hq => N q (.tail _ (List.mem_append.mpr (.inr (.tail _ hq))))
end Mine
end
section
open PySem PySem.W PyProof.Rows
set_option maxRecDepth 100000
set_option maxHeartbeats 4000000
namespace Mine




theorem s7_ok : ∀ (st : Stmt) (w : World) (mean : ExcName → Option Value) (mg mb : Str → Option Value)
   (dp un : Nat) (gd : Option (List Code)) (cn : Str) (cs : Scope) (a : Addr) (ccd : Value) (cl : List (Str × Addr)) (outer : List Env) (A₀ : Around) (base h₀ : Heap) (L : Addr) (s : Shared) (Q : Flow → Shared → Prop) (E : Value → Shared → Prop)
   (i : Nat) (t tp : Tok) (I pl kl : Addr) (av bv cv dv ev fv gv : Option Value) (o1 o2 : Obj) (m₀ : Str → Option Value) (zs : List Str) (vs us : List Value) (nn nu n : Nat) (r : Addr) (ws : List Value) (nw : Nat) (tx tr : Tok) (by9 : Bool) (x dx : Addr) (tk0 t0 : Tok) (its : List Value) (na : Nat) (Y : List (Addr × Obj))
   (hb0 : base = h₀) (h1 : st = stt 7) (h2 : cs = lawFn.2) (B : Below A₀ base outer h₀) (X : (hd.heap_39 w.params).In h₀) (T : Top p0 loose0 mean mg mb h₀) (TB : Top p0 loose0 mean mg mb base) (hd : dp + 400 < recursionLimit) (hu : un + 4000 < cLine)
   (hvs : StrsAre vs zs) (hus : StrsAre us (names zs)) (hzl : zs.length = 9) (hzp : ∀ x ∈ zs, Piece x) (hi : i < 10) (G : AllBare s.gens) (T1 : TabObj o1) (T2 : TabObj o2)
   (F : Fr h₀ L s.heap (overMap (some (.int (i : Int) t)) (some (.ref r)) (some (.str (textOf (names (zs.take i))) tx)) (some (.str (Txt.join slash (zs.drop i)) tr)) (some (.bool by9)) (some (.ref x)) gv (restMap (some (.ref pl)) (some (.str (Txt.join slash zs) tp)) (some (.ref kl)) m₀)))
   (N : News h₀ L s.heap ((63, o1) :: (70, o2) :: Y)) (hY1 : ∀ p ∈ Y, p.1 ≠ 63) (hY2 : ∀ p ∈ Y, p.1 ≠ 70) (hx : (x, accObj dx its.toArray na) ∈ Y) (hdx : (dx, sizeDict w tk0 t0) ∈ Y) (hP : Pairs Y its ((names (zs.take i)).map sPair))
   (hI : (I, rgObj ((i : Int) + 1) ((n : Int) - i - 1)) ∈ Y) (hpl : (pl, listOf vs.toArray nn) ∈ Y) (hkl : (kl, listOf us.toArray nu) ∈ Y) (hr : (r, listOf ws.toArray nw) ∈ Y) (hws : StrsAre ws (names (zs.take i))) (hby : by9 = true ↔ ¬ Ascii (textOf (names (zs.take i)) ++ Txt.join slash (zs.drop i)))
   (hret : ∀ (o1' o2' : Obj) (m₂ : Str → Option Value) (h' : Heap) (g' : Array GenState) (d' : Drawn) (tk' : Nat), TabObj o1' → TabObj o2' → AllBare g' → Over (restMap (some (.ref pl)) (some (.str (Txt.join slash zs) tp)) (some (.ref kl)) m₀) m₂ → Fr h₀ L h' m₂ → News h₀ L h' [(63, o1'), (70, o2'), (I, rgObj ((i : Int) + 1) ((n : Int) - i - 1)), (pl, listOf vs.toArray nn), (kl, listOf us.toArray nu)] → Q .next ⟨h', g', d', tk', s.os⟩),
   wpAny (model PySem.Challenge.rw_op0008_01.row.prog w) (ktrTop dp un gd cn cs L a ccd cl outer) (exec st (envX cn cs L a ccd cl)) Q E s := by
  w_top off
  k_fill
  intro st w mean mg mb dp un gd cn cs a ccd cl outer A₀ base h₀ L s Q E i t tp I pl kl av bv cv dv ev fv gv o1 o2 m₀ zs vs us nn nu n r ws nw tx tr by9 x dx tk0 t0 its na Y hb0 h1 h2 B X T TB hd hu hvs hus hzl hzp hi G T1 T2 F N hY1 hY2 hx hdx hP hI hpl hkl hr hws hby hret
  unfold stt turnBody lawFn PySem.Challenge.pw_op0008_01 at h1
  unfold lawFn PySem.Challenge.pw_op0008_01 at h2
  dsimp only [List.getLast?, List.getLast, List.getElem?_cons_zero, List.getElem?_cons_succ, List.getD, Option.getD_some] at h1 h2
  subst h1 h2
  subst hb0
  repeat' (first
    | (first
      | ((with_reducible show wpAny _ _ (call (Value.builtin "len") _) _ _ _); k_here; (with_reducible show wpAny _ _ (call (Value.builtin _) [Value.str _ _]) _ _ _); k_dflt (refine' len_text ?hp ?hn ?_; (case hp => walk_at "MY pmem"); (case hn => walk_at "MY plen")); intro t9 k9)
      | ((with_reducible show wpAny _ _ (call (Value.builtin "sum") _) _ _ _); k_here; (try dsimp only [List.cons_append, List.nil_append]); k_dflt (refine' sum_ints ?hh ?F ?N ?hl ?hi ?_; (case hh => exact rfl); (case F => k_asm); (case N => k_asm); (case hi => assumption); (case hl => exact News.isList (by k_asm) (by k_mem))); intro h9 tk9 t9 F9 N9; (try dsimp only); (try k_fold))
      | ((with_reducible show wpAny _ _ (call (Value.ref _) _) _ _ _); k_here; k_dflt (show wpAny _ _ (call (Value.ref 146) [_, _]) _ _ _); k_dflt (refine' law_hand _ _ _ _ _ _ _ _ _ _ _ _ _ _ _ _ _ _ _ _ _ _ _ _ _ _ _ _ _ _ _ _ _ ?k1 ?k2 ?k3 ?k4 ?k5 ?kK ?kTB ?kd ?ku ?hx ?hdx ?h63 ?h70 ?T1 ?T2 ?hP ?hp ?hl ?hretL ?hraiseL; (case k1 => k_asm); (case k2 => k_asm); (case k3 => k_asm); (case k4 => k_asm); (case k5 => k_asm); (case kK => first | exact rfl | assumption); (case kTB => assumption); (case hx => k_mem); (case hdx => k_mem); (case h63 => k_mem); (case h70 => k_mem); (case T1 => assumption); (case T2 => assumption); (case hP => exact Pairs.mono (by assumption) (fun q hq => .tail _ (.tail _ hq))); (case hp => assumption); (case hl => walk_at "MY plen"); (case kd => ktr_room); (case ku => ktr_units)); (case' hretL => intro hA9 its9 n9 t9 Y9 h9 tk9 F9 N9 y19 y29 hx9 hdx9 hP9 kl9 kr9; (have hb8 := asc_false (by assumption) hA9); subst hb8; (try dsimp only); (try k_fold)); (case' hraiseL => intro hA9 e9 hm9 h9 tk9 F9 U9 R9; (have hb8 := asc_true (by assumption) hA9); subst hb8; (k_dflt (show wpAny _ _ (noteFrame _ _) _ _ _); k_dflt (refine' caught_X ?hfr ?hf ?F ?U ?R ?T ?hg ?hb ?hk ?hn ?hx ?kcx; (case hfr => exact rfl); (case hf => exact rfl); (case T => assumption); (case hg => exact rfl); (case hb => exact rfl); (case hk => exact rfl); (case hn => exact rfl); (case hx => exact rfl); (case F => assumption); (case U => assumption); (case R => assumption)); (case' kcx => intro u9 t9 oe9 ou9 tm9 h9 tk9 E9 F9 N9 hI9 hG9; obtain ⟨N8, n81, n82, hI8, hG8⟩ := norm_x N9 hI9 hG9 (by assumption) (by assumption) (by assumption) (by assumption); clear N9 hI9 hG9; (try dsimp only); (try k_fold)))))
      | ((with_reducible show wpAny _ _ (exec (Stmt.Try _ _ _ _ _) _) _ _ _); k_here; k_dflt (refine wpAny_Try_except ?_))
      | ((with_reducible show wpAny _ _ (compareOp CmpOp.NotEq (Value.int _ _) (Value.int _ _)) _ _ _); k_here; k_dflt (refine' ne_same_int ?e ?_; (case e => first | with_reducible exact sum_len _ | with_reducible exact sum_octs _ | with_reducible exact count_eq (by assumption) (by assumption))))
      | ((with_reducible show wpAny _ _ (compareOp CmpOp.NotEq (Value.str _ _) (Value.str _ _)) _ _ _); k_here; k_dflt (refine' ne_same_str ?e ?_; (case e => first | with_reducible exact strOf_text _ | exact rfl)))
      | ((with_reducible show wpAny _ _ (call (Value.builtin "len") _) _ _ _); k_here; k_dflt (refine' law_len (Hv.two _ _) _ _ _ _ _ _ _ _ _ _ _ _ _ _ _ _ _ _ _ _ _ _ _ _ _ _ _ _ _ _ _ _ ?k1 ?k2 ?k3 ?k4 ?k5 ?kK ?kd ?ku ?G ?hOn ?hx ?TT ?hPP ?hacc ?hdx ?hP ?hsh ?hz ?_; (case k1 => k_asm); (case k2 => k_asm); (case k3 => k_asm); (case k4 => k_asm); (case k5 => k_asm); (case kK => first | exact rfl | assumption); (case hx => k_asm); (case G => assumption); (case TT => assumption); (case hPP => assumption); (case hOn => first | exact trivial | assumption); (case hacc => k_mem); (case hdx => k_mem); (case hP => first | assumption | exact Pairs.mono (by assumption) (fun q hq => .tail _ (.tail _ (.tail _ hq)))); (case hsh => first | ((with_reducible refine s_short ?_); walk_at "MY pmem") | ((with_reducible refine o_short ?_); walk_at "MY pmem")); (case hz => first | ((with_reducible refine s_len2 ?_); walk_at "MY plen") | ((with_reducible refine o_len2 ?_); walk_at "MY plen")); (case kd => ktr_room); (case ku => ktr_units)); intro o9 t9 h9 g9 d9 tk9 T9 F9 N9 G9; (try dsimp only); (try k_fold))
      | ((with_reducible show wpAny _ _ (call (Value.type "str") _) _ _ _); k_here; k_dflt (refine' law_str (Hv.two _ _) _ _ _ _ _ _ _ _ _ _ _ _ _ _ _ _ _ _ _ _ _ _ _ _ _ _ _ _ _ _ _ _ ?k1 ?k2 ?k3 ?k4 ?k5 ?kK ?kd ?ku ?G ?hOn ?hx ?TT ?hPP ?hacc ?hdx ?hP ?hsh ?hz ?hS ?_; (case k1 => k_asm); (case k2 => k_asm); (case k3 => k_asm); (case k4 => k_asm); (case k5 => k_asm); (case kK => first | exact rfl | assumption); (case hx => k_asm); (case G => assumption); (case TT => assumption); (case hPP => assumption); (case hOn => first | exact trivial | assumption); (case hacc => k_mem); (case hdx => k_mem); (case hP => first | assumption | exact Pairs.mono (by assumption) (fun q hq => .tail _ (.tail _ (.tail _ hq)))); (case hsh => first | ((with_reducible refine s_short ?_); walk_at "MY pmem") | ((with_reducible refine o_short ?_); walk_at "MY pmem")); (case hz => first | ((with_reducible refine s_len2 ?_); walk_at "MY plen") | ((with_reducible refine o_len2 ?_); walk_at "MY plen")); (case hS => exact s_alls); (case kd => ktr_room); (case ku => ktr_units)); intro o9 t9 h9 g9 d9 tk9 T9 F9 N9 G9; (try dsimp only); (try k_fold))
      | ((with_reducible show wpAny _ _ (call (Value.builtin "len") _) _ _ _); k_here; k_dflt (refine' law_len Hv.no _ _ _ _ _ _ _ _ _ _ _ _ _ _ _ _ _ _ _ _ _ _ _ _ _ _ _ _ _ _ _ _ ?k1 ?k2 ?k3 ?k4 ?k5 ?kK ?kd ?ku ?G ?hOn ?hx ?TT ?hPP ?hacc ?hdx ?hP ?hsh ?hz ?_; (case k1 => k_asm); (case k2 => k_asm); (case k3 => k_asm); (case k4 => k_asm); (case k5 => k_asm); (case kK => first | exact rfl | assumption); (case hx => k_asm); (case G => assumption); (case TT => assumption); (case hPP => assumption); (case hOn => first | exact trivial | assumption); (case hacc => k_mem); (case hdx => k_mem); (case hP => first | assumption | exact Pairs.mono (by assumption) (fun q hq => .tail _ (.tail _ (.tail _ hq)))); (case hsh => first | ((with_reducible refine s_short ?_); walk_at "MY pmem") | ((with_reducible refine o_short ?_); walk_at "MY pmem")); (case hz => first | ((with_reducible refine s_len2 ?_); walk_at "MY plen") | ((with_reducible refine o_len2 ?_); walk_at "MY plen")); (case kd => ktr_room); (case ku => ktr_units)); intro o9 t9 h9 g9 d9 tk9 T9 F9 N9 G9; (try dsimp only); (try k_fold))
      | ((with_reducible show wpAny _ _ (compareOp CmpOp.NotEq (Value.ref _) (Value.ref _)) _ _ _); k_here; k_dflt (refine' ne_pairs ?N ?hl ?hb ?h1 ?h2 ?hu ?_; (case N => k_asm); (case hl => k_mem); (case hb => k_mem); (case h2 => exact Pairs.mono (by assumption) (fun q hq => .tail _ hq)); (case h1 => exact Pairs.mono (by assumption) (fun q hq => .tail _ (List.mem_append.mpr (.inr (.tail _ (.tail _ (.tail _ hq))))))); (case hu => ktr_units)); (rename News _ _ _ _ => lN9); (have N9 := cut_pairs lN9); clear lN9)
      | ((with_reducible show wpAny _ _ (eval (PySem.Expr.ListComp _ _ _ _) _) _ _ _); k_here; (with_reducible show wpAny _ _ (eval (PySem.Expr.ListComp (PySem.Expr.Tuple _ _ _) _ _ _) _) _ _ _); k_dflt (refine' oct_comp ?hh ?F ?N ?T ?hg ?hb ?hek ?hes ?hsd ?hLe ?hms ?hog ?hob ?hyg ?hyb ?hclos ?hcell ?hkind ?hnames ?hx ?hyd ?hxb ?hfree2 ?hcell2 ?hkind2 ?hnames2 ?hx2 ?hxd2 ?hxo2 ?hl ?hi ?hz ?hsh ?hA ?hQt5; (case hh => exact rfl); (case F => k_asm); (case N => k_asm); (case T => assumption); (case hg => exact rfl); (case hb => exact rfl); (case hek => exact rfl); (case hes => exact rfl); (case hsd => decide); (case hLe => exact rfl); (case hms => exact rfl); (case hog => exact top_none (by assumption) (by decide +kernel) (by decide +kernel)); (case hob => exact top_boot (by assumption) (by decide +kernel) (by decide +kernel)); (case hyg => exact top_none (by assumption) (by decide +kernel) (by decide +kernel)); (case hyb => exact top_boot (by assumption) (by decide +kernel) (by decide +kernel)); (case hclos => exact rfl); (case hcell => decide); (case hkind => exact rfl); (case hnames => decide); (case hx => exact rfl); (case hyd => decide); (case hxb => exact rfl); (case hfree2 => decide); (case hcell2 => decide); (case hkind2 => exact rfl); (case hnames2 => decide); (case hx2 => exact rfl); (case hxd2 => decide); (case hxo2 => exact rfl); (case hl => k_mem); (case hi => assumption); (case hz => exact small_strs (by assumption) (by walk_at "MY plen")); (case hsh => exact piece_short (by walk_at "MY pmem")); (case hA => exact (kept_ascii (by assumption)).1)); (case' hQt5 => intro ys9 tl9 D9 h9 tk9 hP9 F9 N9 off9; (try dsimp only); (try k_fold)))
      | ((with_reducible show wpAny _ _ (eval (PySem.Expr.ListComp _ _ _ _) _) _ _ _); k_here; (with_reducible show wpAny _ _ (eval (PySem.Expr.ListComp (PySem.Expr.Name _ _) [⟨_, PySem.Expr.Name _ _, [], _⟩] _ _) _) _ _ _); k_dflt (refine' pair_comp ?hh ?F ?X ?N ?hov ?hf ?hx ?hz ?hiter ?hfree ?hcell ?hkind ?hnames ?hxy ?hyd ?hQt4 ?hs; (case hh => exact rfl); (case F => k_asm); (case X => k_asm); (case N => k_asm); (case hov => kernel_rfl); (case hf => k_is); (case hiter => exact wpAny_Name (wpAny_loadName_local rfl rfl (Fr.ns (by k_asm)) rfl ⟨rfl, rfl⟩) (by decide)); (case hx => k_mem); (case hz => exact its_len (by assumption) (by walk_at "MY plen")); (case hfree => decide); (case hcell => decide); (case hkind => exact rfl); (case hnames => decide); (case hxy => exact rfl); (case hyd => decide); (case hs => intro _; rfl)); (case' hQt4 => intro D9 n9 h9 tk9 F9 N9 off9; (try dsimp only); (try k_fold)))
      | ((with_reducible show wpAny _ _ (eval (PySem.Expr.ListComp _ _ _ _) _) _ _ _); k_here; (with_reducible show wpAny _ _ (eval (PySem.Expr.ListComp (PySem.Expr.BinOp (PySem.Expr.Constant (PySem.Const.int _) _ _) _ _ _) _ _ _) _) _ _ _); k_dflt (refine' lens_comp ?hh ?F ?N ?T ?hg ?hb ?hek ?hes ?hsd ?hLe ?hms ?hlg ?hlb ?hclos ?hcell ?hkind ?hnames ?hx ?hyd ?hxl ?hl ?hi ?hz ?hsh ?hQt2; (case hh => exact rfl); (case F => k_asm); (case N => k_asm); (case T => assumption); (case hg => exact rfl); (case hb => exact rfl); (case hlg => exact top_none (by assumption) (by decide +kernel) (by decide +kernel)); (case hlb => exact top_boot (by assumption) (by decide +kernel) (by decide +kernel)); (case hxl => exact rfl); (case hek => exact rfl); (case hes => exact rfl); (case hsd => decide); (case hLe => exact rfl); (case hms => exact rfl); (case hclos => exact rfl); (case hcell => decide); (case hkind => exact rfl); (case hnames => decide); (case hx => exact rfl); (case hyd => decide); (case hl => k_mem); (case hi => assumption); (case hz => exact small_strs (by assumption) (by walk_at "MY plen")); (case hsh => exact piece_short (by walk_at "MY pmem"))); (case' hQt2 => intro ys9 D9 h9 tk9 hys9 F9 N9 off9; (try dsimp only); (try k_fold))))
    | (k_unfold; (try dsimp only)) | (k_end; kc_close) | walk1 | (dsimp only; walk1) | (leave1; (try dsimp only)) | fail "no step")
  · refine gone (by rfl) (by rfl) (by rfl) (by k_asm) (by k_asm) fun h6 v6 k6 F6 N6 => ?_
    refine hret _ _ _ _ _ _ _ ?_ ?_ ?_ (over_set (over_set ov_over (by simp)) (by simp)) F6 (news5 N6 (.head _) (.tail _ (.head _)) (by k_mem) (by k_mem) (by k_mem)) <;> assumption
  · rename News _ _ _ _ => lN9
    refine' hret _ _ _ _ _ _ _ ?a ?b ?c ov_over ?F (news5 lN9 (.tail _ (.head _)) (.tail _ (.tail _ (.head _))) (by k_mem) (by k_mem) (by k_mem))
    (case F => k_asm)
    (case a => assumption)
    (case b => assumption)
    (case c => assumption)
end Mine
end
section
open PySem PySem.W PyProof.Rows
set_option maxRecDepth 100000
set_option maxHeartbeats 1000000
namespace Mine
theorem law_turn : ∀ (body : List Stmt) (w : World) (mean : ExcName → Option Value) (mg mb : Str → Option Value)
   (dp un : Nat) (gd : Option (List Code)) (cn : Str) (cs : Scope) (a : Addr) (ccd : Value) (cl : List (Str × Addr)) (outer : List Env) (A₀ : Around) (base : Heap) (L : Addr) (s : Shared) (E : Value → Shared → Prop)
   (i : Nat) (t tp : Tok) (I pl kl : Addr) (av bv cv dv ev fv gv : Option Value) (o1 o2 : Obj) (m₀ : Str → Option Value) (zs : List Str) (vs us : List Value) (nn nu n : Nat)
   (h1 : body = turnBody) (h2 : cs = lawFn.2) (B : Below A₀ base outer base) (X : (hd.heap_39 w.params).In base) (T : Top p0 loose0 mean mg mb base) (hd : dp + 400 < recursionLimit) (hu : un + 4000 < cLine)
   (hvs : StrsAre vs zs) (hus : StrsAre us (names zs)) (hzl : zs.length = 9) (hzp : ∀ x ∈ zs, Piece x) (hi : i < 10) (G : AllBare s.gens) (T1 : TabObj o1) (T2 : TabObj o2)
   (hm1 : m₀ (Str.ofString "pieces") = some (.ref pl)) (hm2 : m₀ (Str.ofString "path") = some (.str (Txt.join slash zs) tp)) (hm3 : m₀ (Str.ofString "kept") = some (.ref kl))
   (F : Fr base L s.heap (fun y => if y = Str.ofString "stage" then some (.int (i : Int) t) else overMap av bv cv dv ev fv gv m₀ y))
   (N : News base L s.heap [(63, o1), (70, o2), (I, rgObj ((i : Int) + 1) ((n : Int) - i - 1)), (pl, listOf vs.toArray nn), (kl, listOf us.toArray nu)]),
   wpAny (model PySem.Challenge.rw_op0008_01.row.prog w) (ktrTop dp un gd cn cs L a ccd cl outer) (execs body (envX cn cs L a ccd cl)) (fun fl s₂ => match fl with
        | .next => ∃ m₂ p1 p2, s₂.os = s.os ∧ AllBare s₂.gens ∧ Over m₀ m₂ ∧ TabObj p1 ∧ TabObj p2 ∧ Fr base L s₂.heap m₂ ∧ News base L s₂.heap [(63, p1), (70, p2), (I, rgObj ((i : Int) + 1) ((n : Int) - i - 1)), (pl, listOf vs.toArray nn), (kl, listOf us.toArray nu)]
        | _ => False) E s := by
  intro body w mean mg mb dp un gd cn cs a ccd cl outer A₀ base L s E i t tp I pl kl av bv cv dv ev fv gv o1 o2 m₀ zs vs us nn nu n h1 h2 B X T hd hu hvs hus hzl hzp hi G T1 T2 hm1 hm2 hm3 F N
  have em := rest_map hm1 hm2 hm3
  generalize hmr : restMap (some (.ref pl)) (some (.str (Txt.join slash zs) tp)) (some (.ref kl)) m₀ = mr at em
  subst em
  have F0 : Fr base L s.heap (overMap (some (.int (i : Int) t)) bv cv dv ev fv gv m₀) := by
    have e : (fun y => if y = Str.ofString "stage" then some (.int (i : Int) t) else overMap av bv cv dv ev fv gv m₀ y) = overMap (some (.int (i : Int) t)) bv cv dv ev fv gv m₀ := by
      funext y
      unfold overMap
      by_cases e1 : y = Str.ofString "stage"
      · rw [if_pos e1, if_pos e1]
      · simp only [if_neg e1]
    exact e ▸ F
  rw [← hmr] at F0 ⊢
  rw [h1, turn_stts]
  refine wpAny_execs_cons ?_
  refine s0_ok _ w mean mg mb dp un gd cn cs a ccd cl outer A₀ base base L s _ E i t tp I pl kl av bv cv dv ev fv gv o1 o2 _ zs vs us nn nu n rfl h2 B X T T hd hu hvs hus hzl hzp hi G T1 T2 F0 N ?_
  intro r ws nw hp1 tk1 F1 N1 hws
  refine wpAny_execs_cons ?_
  refine s1_ok _ w mean mg mb dp un gd cn cs a ccd cl outer A₀ base base L _ _ E i t tp I pl kl av bv cv dv ev fv gv o1 o2 _ zs vs us nn nu n r ws nw rfl h2 B X T T hd hu hvs hus hzl hzp hi G T1 T2 F1 N1 hws ?_
  intro tx hp2 tk2 F2 N2
  refine wpAny_execs_cons ?_
  refine s2_ok _ w mean mg mb dp un gd cn cs a ccd cl outer A₀ base base L _ _ E i t tp I pl kl av bv cv dv ev fv gv o1 o2 _ zs vs us nn nu n r ws nw tx rfl h2 B X T T hd hu hvs hus hzl hzp hi G T1 T2 F2 N2 ?_
  intro tr hp3 tk3 F3 N3
  refine wpAny_execs_cons ?_
  refine s3_ok _ w mean mg mb dp un gd cn cs a ccd cl outer A₀ base base L _ _ E i t tp I pl kl av bv cv dv ev fv gv o1 o2 _ zs vs us nn nu n r ws nw tx tr rfl h2 B X T T hd hu hvs hus hzl hzp hi G T1 T2 F3 N3 ?_
  intro by9 hp4 tk4 hby F4 N4
  refine wpAny_execs_cons ?_
  refine s4_ok _ w mean mg mb dp un gd cn cs a ccd cl outer A₀ base base L _ _ E i t tp I pl kl av bv cv dv ev fv gv o1 o2 _ zs vs us nn nu n r ws nw tx tr by9 rfl h2 B X T T hd hu hvs hus hzl hzp hi G T1 T2 F4 N4 ?_
  intro x dx tk0 t0 hp5 tk5 F5 N5
  refine wpAny_execs_cons ?_
  refine s5_ok _ w mean mg mb dp un gd cn cs a ccd cl outer A₀ base base L _ _ E i t tp I pl kl av bv cv dv ev fv gv o1 o2 _ zs vs us nn nu n r ws nw tx tr by9 x dx tk0 t0 rfl h2 B X T T hd hu hvs hus hzl hzp hi G T1 T2 F5 N5 ?_
  intro its na Y hp6 tk6 F6 N6 y1 y2 hx hdx hP hI hpl hkl hr
  refine wpAny_execs_cons ?_
  refine s6_ok _ w mean mg mb dp un gd cn cs a ccd cl outer A₀ base base L _ _ E i t tp I pl kl av bv cv dv ev fv gv o1 o2 _ zs vs us nn nu n r ws nw tx tr by9 x dx tk0 t0 its na Y rfl h2 B X T T hd hu hvs hus hzl hzp hi G T1 T2 F6 N6 y1 y2 hx hdx hP hI hpl hkl hr hws ?_
  intro p1 p2 hp7 g7 d7 tk7 P1 P2 G7 F7 N7
  refine wpAny_execs_cons ?_
  refine s7_ok _ w mean mg mb dp un gd cn cs a ccd cl outer A₀ base base L _ _ E i t tp I pl kl av bv cv dv ev fv gv p1 p2 _ zs vs us nn nu n r ws nw tx tr by9 x dx tk0 t0 its na Y rfl rfl h2 B X T T hd hu hvs hus hzl hzp hi G7 P1 P2 F7 N7 y1 y2 hx hdx hP hI hpl hkl hr hws hby ?_
  intro q1 q2 m₂ hp8 g8 d8 tk8 Q1 Q2 G8 O8 F8 N8
  exact wpAny_execs_nil ⟨m₂, q1, q2, rfl, G8, O8, Q1, Q2, F8, N8⟩
theorem law_turn2 : ∀ (body : List Stmt) (A : Around) (env : Env) (Q : Flow → Shared → Prop) (w : World) (mean : ExcName → Option Value) (mg mb : Str → Option Value)
   (dp un : Nat) (gd : Option (List Code)) (cn : Str) (cs : Scope) (a : Addr) (ccd : Value) (cl : List (Str × Addr)) (outer : List Env) (A₀ : Around) (base : Heap) (L : Addr) (s : Shared) (E : Value → Shared → Prop)
   (i : Nat) (t tp : Tok) (I pl kl : Addr) (av bv cv dv ev fv gv : Option Value) (o1 o2 : Obj) (m₀ : Str → Option Value) (zs : List Str) (vs us : List Value) (nn nu n : Nat)
   (hA : A = ktrTop dp un gd cn cs L a ccd cl outer) (hE : env = envX cn cs L a ccd cl) (h1 : body = turnBody) (h2 : cs = lawFn.2) (B : Below A₀ base outer base) (X : (hd.heap_39 w.params).In base) (T : Top p0 loose0 mean mg mb base) (hd : dp + 400 < recursionLimit) (hu : un + 4000 < cLine)
   (hvs : StrsAre vs zs) (hus : StrsAre us (names zs)) (hzl : zs.length = 9) (hzp : ∀ x ∈ zs, Piece x) (hi : i < 10) (G : AllBare s.gens) (T1 : TabObj o1) (T2 : TabObj o2)
   (hm1 : m₀ (Str.ofString "pieces") = some (.ref pl)) (hm2 : m₀ (Str.ofString "path") = some (.str (Txt.join slash zs) tp)) (hm3 : m₀ (Str.ofString "kept") = some (.ref kl))
   (F : Fr base L s.heap (fun y => if y = Str.ofString "stage" then some (.int (i : Int) t) else overMap av bv cv dv ev fv gv m₀ y))
   (N : News base L s.heap [(63, o1), (70, o2), (I, rgObj ((i : Int) + 1) ((n : Int) - i - 1)), (pl, listOf vs.toArray nn), (kl, listOf us.toArray nu)])
   (hQ : ∀ s₂ m₂ p1 p2, s₂.os = s.os → AllBare s₂.gens → Over m₀ m₂ → TabObj p1 → TabObj p2 → Fr base L s₂.heap m₂ → News base L s₂.heap [(63, p1), (70, p2), (I, rgObj ((i : Int) + 1) ((n : Int) - i - 1)), (pl, listOf vs.toArray nn), (kl, listOf us.toArray nu)] → Q .next s₂),
   wpAny (model PySem.Challenge.rw_op0008_01.row.prog w) A (execs body env) Q E s := by
  intro body A env Q w mean mg mb dp un gd cn cs a ccd cl outer A₀ base L s E i t tp I pl kl av bv cv dv ev fv gv o1 o2 m₀ zs vs us nn nu n hA hE h1 h2 B X T hd hu hvs hus hzl hzp hi G T1 T2 hm1 hm2 hm3 F N hQ
  subst hA hE
  refine wpAny_mono (law_turn body w mean mg mb dp un gd cn cs a ccd cl outer A₀ base L s E i t tp I pl kl av bv cv dv ev fv gv o1 o2 m₀ zs vs us nn nu n h1 h2 B X T hd hu hvs hus hzl hzp hi G T1 T2 hm1 hm2 hm3 F N) (fun fl s₂ h => ?_) fun _ _ z => z
  cases fl with
  | next =>
    obtain ⟨m₂, p1, p2, q1, q2, q3, q4, q5, q6, q7⟩ := h
    exact hQ s₂ m₂ p1 p2 q1 q2 q3 q4 q5 q6 q7
  | ret v => exact h.elim
  | brk => exact h.elim
  | cont => exact h.elim
end Mine
end
section
open PySem PySem.W PyProof.Rows
set_option maxRecDepth 100000
set_option maxHeartbeats 1000000
namespace Mine
theorem law_end {cl : Str → Option Addr} {args : List WData} {s₁ s' : Shared} {L : Addr} {m : Str → Option Value} {o1 o2 : Obj} {Y : List (Addr × Obj)} (F : Fr s₁.heap L s'.heap m) (N : News s₁.heap L s'.heap ((63, o1) :: (70, o2) :: Y)) (T1 : TabObj o1) (T2 : TabObj o2) (G : AllBare s'.gens) (hos : s'.os = s₁.os) :
    GoodB PySem.Challenge.rw_op0008_01.row.claim cl args s₁ (.ok (.ret (.bool true))) s' ∧ GrownAll [(67, 63), (74, 70)] s'.heap := by
  obtain ⟨p1, rfl, _⟩ := T1
  obtain ⟨p2, rfl, _⟩ := T2
  exact ⟨⟨⟨.bool true, .bool true, [], rfl, fun _ => rfl, .bool true, (by kernel_rfl), fun _ => ⟨.nil, fun _ ha => nomatch ha⟩⟩, F.keep, hos, G⟩, ⟨p1, (N _ (.head _)).1⟩, ⟨p2, (N _ (.tail _ (.head _))).1⟩, trivial⟩
theorem hide_qe {α : Type} {M : Model} {A : Around} {t : Sem α} {Q : α → Shared → Prop} {E : Value → Shared → Prop} {s : Shared} (h : ∀ (Q' : α → Shared → Prop) (E' : Value → Shared → Prop), Q' = Q → wpAny M A t Q' E' s) : wpAny M A t Q E s := h Q E rfl
end Mine
end
section
open PySem PySem.W PyProof.Rows
set_option maxRecDepth 100000
set_option maxHeartbeats 12000000
namespace Mine



theorem t0 : PySem.Challenge.rw_op0008_01.Holds := hd (by w_strict (
    k_fill
    intro w s₀ s₁ mg mb G Y fa o pm cd doc dV kV ho hd' hcd hD hmg hg args vals as hpre hlay hrd hwl hlo
    have KX := km_in_of Y
    have hT8 := km_tabs_of Y
    have X := (Ground.X G).1
    have V := (Ground.X G).2
    refine Ground.open G ?_
    intro T B D TE TW
    try (refine guard_noD D (by decide +kernel) ?_; clear D)
    have hT9 : TabsAt ([(67, 63), (74, 70)] : List (Addr × Addr)) s₁.heap := List.forall_mem_cons.mpr ⟨⟨codeHd_of_K (c := 67) (P := 63) KX (by kernel_rfl), hT8 63 (by k_mem)⟩, List.forall_mem_cons.mpr ⟨⟨codeHd_of_K (c := 74) (P := 70) KX (by kernel_rfl), hT8 70 (by k_mem)⟩, fun _ h => nomatch h⟩⟩
    have TP := ghost_p0 hT9 T (by decide +kernel) (by decide +kernel) (by decide +kernel) (by decide +kernel) (by decide +kernel)
    wrow_args hpre hlay hrd hwl hlo
    all_goals (
      first | refine callC_kw (enter_call ?_) | refine enter_call ?_
      w_top on
      refine my_post hT9 ?_
      w_call any ho hd' hcd hD T F
      rename News _ _ _ _ => N9
      rename Heap.IsList _ _ _ => hL9
      clear B TE TW X V hD hd' ho hcd hmg T hT8
      have N := ghost_news hT9 F N9
      have F' := ghost_fr hT9 F
      have X := ghost_K hT9 KX (by kernel_rfl)
      have hL := ghost_list hT9 hL9
      have B := ghost_below (tabs := ([(67, 63), (74, 70)] : List (Addr × Addr))) hT9
      clear F N9 hL9 KX)

    simp only [tabNews, List.map_cons, List.map_nil, List.nil_append, List.cons_append] at N; (all_goals try k_fold)
    refine hide_qe fun Q9 E9 hQ9 => ?_
    repeat' (first
    | (first
      | ((with_reducible show wpAny _ _ (exec (Stmt.For _ _ _ _ _) _) _ _ _); k_here; k_dflt (refine' for_law ?hh ?hLe ?F ?N ?T ?hg ?hb ?hek ?her ?hel ?hes ?hms ?hmk ?hx ?hrg ?hrb ?hlg ?hlb ?hl ?hl2 ?h63 ?h70 ?hn ?hz ?G ?turn ?done; (case hh => exact rfl); (case F => k_asm); (case hLe => exact rfl); (case N => k_asm); (case T => assumption); (case hg => exact rfl); (case hb => exact rfl); (case hek => exact rfl); (case her => exact rfl); (case hel => exact rfl); (case hes => exact rfl); (case hms => exact rfl); (case hmk => exact rfl); (case hx => exact rfl); (case hrg => exact top_none (by assumption) (by decide +kernel) (by decide +kernel)); (case hrb => exact top_boot (by assumption) (by decide +kernel) (by decide +kernel)); (case hlg => exact top_none (by assumption) (by decide +kernel) (by decide +kernel)); (case hlb => exact top_boot (by assumption) (by decide +kernel) (by decide +kernel)); (case hl => k_mem); (case hl2 => k_mem); (case h63 => k_mem); (case h70 => k_mem); (case hn => exact nine (by assumption) (by assumption)); (case hz => decide); (case G => exact AllBare.of_eq (by assumption))); (case' turn => intro i9 t9 I9 s9 a9 b9 c9 d9 e9 f9 g9 o19 o29 E9 hi9 hos9 hG9 ht19 ht29 F9 N9; refine Stop9.mk' ?_); (case' done => intro s9 m9 o19 o29 hos9 hG9 ht19 ht29 F9 N9; refine Stop9.mk' ?_))
      | ((with_reducible show wpAny _ _ (call (Value.ref _) _) _ _ _); k_here; k_dflt (show wpAny _ _ (call (Value.ref 134) [Value.ref _]) _ _ _); k_dflt (refine' kept_ok _ _ _ _ _ _ _ _ _ _ _ _ _ _ _ _ _ _ _ _ _ _ _ _ _ _ ?k1 ?k2 ?k3 ?k4 ?k5 ?kK ?kd ?ku ?hpl ?hvs ?hlen ?_; (case k1 => k_asm); (case k2 => k_asm); (case k3 => k_asm); (case k4 => k_asm); (case k5 => k_asm); (case kK => first | exact rfl | assumption); (case hpl => k_mem); (case hvs => assumption); (case hlen => exact Nat.le_trans (m := 10) (by walk_at "MY plen") (by decide)); (case kd => ktr_room); (case ku => ktr_units)); intro r9 us9 nu9 h9 tk9 hu9 F9 N9 l9; k_dflt (change StrsAre _ (names _) at hu9); (try k_lt l9); (try dsimp only); (try k_fold))
      | ((with_reducible show wpAny _ _ (call (Value.builtin "str.join") _) _ _ _); k_here; (try dsimp only [List.cons_append, List.nil_append]); (with_reducible show wpAny _ _ (call (Value.builtin _) [Value.str _ _, Value.ref _]) _ _ _); k_dflt (refine' join_strs ?N ?hl ?hi ?hsep ?hw ?_; (case N => k_asm); (case hl => k_mem); (case hi => assumption); (case hsep => decide +kernel); (case hw => first | exact piece_sum (by walk_at "MY pmem") (by walk_at "MY plen") | exact slash_sum (by walk_at "MY pmem") (by walk_at "MY plen"))); intro t9 k9)
      | ((with_reducible show wpAny _ _ (binaryOp Operator.Add (Value.ref _) (Value.ref _)) _ _ _); k_here; k_dflt (refine' add_first ?F ?N ?ha ?hb ?hj ?hl ?hp ?_; (case F => k_asm); (case N => k_asm); (case ha => k_mem); (case hb => k_mem); (case hj => assumption); (case hl => assumption); (case hp => assumption)); intro D9 h9 us9 zs9 F9 N9 hS9 hl9 hp9 l9; (try k_lt l9); (try k_sweep))
      | ((with_reducible show wpAny _ _ (eval (PySem.Expr.ListComp _ _ _ _) _) _ _ _); k_here; (with_reducible show wpAny _ _ (eval (PySem.Expr.ListComp (PySem.Expr.Call _ [_, _] _ _) _ _ _) _) _ _ _); k_dflt (refine' pieces_comp ?hh ?F ?N ?X ?hkf ?T ?hg ?hb ?hek ?her ?hfv ?hsg ?hsb ?hrg ?hrb ?hclos ?hcell ?hkind ?hnames ?hx ?hkd ?hfd ?hnd ?hncd ?hxf ?hxs ?hxn ?hclk ?hcm ?hcd ?hl ?hi ?hz ?hpc ?hQ; (case hh => exact rfl); (case F => k_asm); (case N => k_asm); (case X => k_asm); (case T => assumption); (case hkf => first | kernel_rfl | k_is); (case hg => exact rfl); (case hb => exact rfl); (case hek => exact rfl); (case her => exact rfl); (case hfv => exact mg_of (by k_asm) (Top.g (by assumption)) (by k_is)); (case hsg => exact top_none (by assumption) (by decide +kernel) (by decide +kernel)); (case hrg => exact top_none (by assumption) (by decide +kernel) (by decide +kernel)); (case hsb => exact top_boot (by assumption) (by decide +kernel) (by decide +kernel)); (case hrb => exact top_boot (by assumption) (by decide +kernel) (by decide +kernel)); (case hclos => exact rfl); (case hcell => decide); (case hkind => exact rfl); (case hnames => decide); (case hx => exact rfl); (case hkd => decide); (case hfd => decide); (case hnd => decide); (case hncd => decide); (case hxf => exact rfl); (case hxs => exact rfl); (case hxn => exact rfl); (case hclk => exact rfl); (case hcm => k_mem); (case hcd => assumption); (case hl => k_mem); (case hi => assumption); (case hz => exact take_small (by assumption)); (case hpc => (intro i8 part8 t81 t82 nw8 h8 tk8 Q8 E8 hi80 hi88 F8 N8 hr8; k_dflt (refine' piece_ok _ _ _ _ _ _ _ _ _ _ _ _ _ _ _ _ _ _ _ _ _ _ _ _ _ _ ?k1 ?k2 ?k3 ?k4 ?k5 ?kK ?kd ?ku ?ka ?kb ?kr; (case k2 => exact F8); (case k4 => exact N8); (case k1 => k_asm); (case k3 => k_asm); (case k5 => k_asm); (case kK => first | exact rfl | assumption); (case kd => ktr_room); (case ku => ktr_units); (case ka => exact hi80); (case kb => exact hi88); (case kr => exact fun x t h tk hp F N => hr8 x t h tk hp F N))))); (case' hQ => intro ys9 xs9 D9 h9 tk9 hys9 hxl9 hxp9 F9 N9 off9; (try dsimp only); (try k_fold))))
    | (k_unfold; (try dsimp only)) | (k_end; kc_close) | walk1 | (dsimp only; walk1) | (leave1; (try dsimp only)) | fail "no step")
    · unfold Stop9
      dsimp only
      refine wpAny_execs_cons (wpAny_Return_some (wpAny_Constant_bool ?_))
      dsimp only
      rw [hQ9]
      exact law_end (by assumption) (by assumption) (by assumption) (by assumption) (by assumption) (by assumption)
    · unfold Stop9
      k_dflt (refine' law_turn2 _ _ _ _ _ _ _ _ _ _ _ _ _ _ _ _ _ _ _ _ _ _ _ _ _ _ _ _ _ _ _ _ _ _ _ _ _ _ _ _ _ _ _ _ ?hA ?hE ?h1 ?h2 ?B ?X ?T ?hd ?hu ?hvs ?hus ?hzl ?hzp ?hi ?G ?T1 ?T2 ?hm1 ?hm2 ?hm3 ?F ?N ?hQ7)
      (case F => assumption)
      (case N => assumption)
      (case hE => k_dflt exact rfl)
      (case hA => k_dflt exact rfl)
      (case hQ7 => k_dflt exact fun s₂ m₂ p1 p2 q1 q2 q3 q4 q5 q6 q7 => ⟨m₂, p1, p2, q1.trans (by assumption), q2, q3, q4, q5, q6, q7⟩)
      (case h2 => k_dflt exact rfl)
      (case h1 => k_dflt exact rfl)
      (case B => assumption)
      (case X => assumption)
      (case T => assumption)
      (case hd => decide)
      (case hu => (have := cLine_is; ktr_units))
      (case hvs => assumption)
      (case hus => assumption)
      (case hzl => assumption)
      (case hzp => assumption)
      (case hi => assumption)
      (case G => assumption)
      (case T1 => assumption)
      (case T2 => assumption)
      (case hm1 => k_dflt exact rfl)
      (case hm2 => k_dflt exact rfl)
      (case hm3 => k_dflt exact rfl)))

end Mine
end
end
set_option maxRecDepth 100000 in
theorem PySem.Challenge.cw_op0008_01_holds : PySem.Challenge.rw_op0008_01.Holds := by
  exact Mine.t0
