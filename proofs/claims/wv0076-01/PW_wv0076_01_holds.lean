import PyProof.Rows.All
import Wide.All
import OpenK.AllK
import Wide.FinOn
import PySem.Challenge.RW_wv0076_01
open PySem PySem.W PyProof.Rows PySem.Calls
set_option Elab.async false
namespace Mine
/-- the forty-eight operators, in the order of their numbers from seven on, by their signs' codes -/
def opsN : List (List Nat) := [[40], [41], [91], [93], [58], [44], [59], [43], [45], [42], [47], [124], [38], [60], [62], [61], [46], [37], [123], [125],
  [61, 61], [33, 61], [60, 61], [62, 61], [126], [94], [60, 60], [62, 62], [42, 42], [43, 61], [45, 61], [42, 61], [47, 61], [37, 61], [38, 61], [124, 61], [94, 61],
  [60, 60, 61], [62, 62, 61], [42, 42, 61], [47, 47], [47, 47, 61], [64], [64, 61], [45, 62], [46, 46, 46], [58, 61], [33]]
def ops : List Str := opsN.map fun l => ⟨l.toArray⟩
theorem split_ops : Txt.split (Str.ofString "( ) [ ] : , ; + - * / | & < > = . % { } == != <= >= ~ ^ << >> ** += -= *= /= %= &= |= ^= <<= >>= **=" ++ Str.ofString " // //= @ @= -> ... := !") (Str.ofString " ") = ops := by decide +kernel
/-- the table of the text, by its signs' codes, in its own order -/
def tabN : List (List Nat × Int) := [([33], 54), ([33, 61], 28), ([37], 24), ([37, 61], 40), ([38], 19), ([38, 61], 41), ([40], 7), ([41], 8), ([42], 16), ([42, 42], 35), ([42, 42, 61], 46), ([42, 61], 38), ([43], 14), ([43, 61], 36), ([44], 12), ([45], 15), ([45, 61], 37), ([45, 62], 51), ([46], 23), ([46, 46, 46], 52), ([47], 17), ([47, 47], 47), ([47, 47, 61], 48), ([47, 61], 39), ([58], 11), ([58, 61], 53), ([59], 13), ([60], 20), ([60, 60], 33), ([60, 60, 61], 44), ([60, 61], 29), ([61], 22), ([61, 61], 27), ([62], 21), ([62, 61], 30), ([62, 62], 34), ([62, 62, 61], 45), ([64], 49), ([64, 61], 50), ([91], 9), ([93], 10), ([94], 32), ([94, 61], 43), ([123], 25), ([124], 18), ([124, 61], 42), ([125], 26), ([126], 31)]
def tabD : List (PyData × PyData) := tabN.map fun p => (.str ⟨p.1.toArray⟩, .int p.2)
theorem ops_len : ops.length = 48 := by decide +kernel
def isInt : Option PyData → Int → Bool
  | some (.int i), j => i == j
  | _, _ => false
theorem isInt_eq : ∀ {d : Option PyData} {j : Int}, isInt d j = true → d = some (.int j)
  | some (.int i), j, h => by
    have e : i = j := by simpa [isInt] using h
    rw [e]
theorem lookup_all : (List.range 48).all (fun k => isInt (PySem.Spec.lookup (.str (ops.getD k Str.empty)) tabD) (7 + (k : Int))) = true := by decide +kernel
theorem lookup_ops {k : Nat} (hk : k < 48) : PySem.Spec.lookup (.str (ops.getD k Str.empty)) tabD = some (.int (7 + k)) :=
  isInt_eq (List.all_eq_true.mp lookup_all k (List.mem_range.mpr hk))
/-- is this text one of the operators? -/
def isOp (x : Str) : Bool := ops.any (· == x)
theorem isOp_iff {x : Str} : isOp x = true ↔ x ∈ ops := by
  unfold isOp
  rw [List.any_eq_true]
  constructor
  · rintro ⟨y, hy, e⟩
    rw [← eq_of_beq e]; exact hy
  · intro h
    exact ⟨x, h, beq_self_eq_true x⟩
def keys : List Str := tabN.map fun p => ⟨p.1.toArray⟩
theorem keys_ops : keys.all (fun y => decide (y ∈ ops)) = true := by decide +kernel
theorem ops_keys : ops.all (fun y => decide (y ∈ keys)) = true := by decide +kernel
theorem lookup_some {x : Str} : ∀ {l : List (List Nat × Int)}, (PySem.Spec.lookup (.str x) (l.map fun p => (PyData.str ⟨p.1.toArray⟩, PyData.int p.2))).isSome = decide (x ∈ l.map fun p => (⟨p.1.toArray⟩ : Str))
  | [] => rfl
  | p :: l => by
    have ih := @lookup_some x l
    rw [List.map_cons, List.map_cons]
    show (if PySem.Spec.same (PyData.str ⟨p.1.toArray⟩) (.str x) = true then some (PyData.int p.2) else PySem.Spec.lookup (.str x) (l.map fun p => (PyData.str ⟨p.1.toArray⟩, PyData.int p.2))).isSome = _
    rw [show PySem.Spec.same (PyData.str ⟨p.1.toArray⟩) (.str x) = decide ((⟨p.1.toArray⟩ : Str) = x) from by by_cases h : (⟨p.1.toArray⟩ : Str) = x <;> simp [PySem.Spec.same, h]]
    by_cases e : (⟨p.1.toArray⟩ : Str) = x
    · subst e
      simp
    · rw [if_neg (by simpa using e), ih]
      have e' : ¬ x = (⟨p.1.toArray⟩ : Str) := fun q => e q.symm
      simp [e']
theorem lookup_isOp (x : Str) : (PySem.Spec.lookup (.str x) tabD).isSome = isOp x := by
  refine lookup_some.trans ?_
  have h : (x ∈ keys) ↔ (x ∈ ops) :=
    ⟨fun h => of_decide_eq_true (List.all_eq_true.mp keys_ops x h), fun h => of_decide_eq_true (List.all_eq_true.mp ops_keys x h)⟩
  show decide (x ∈ keys) = isOp x
  by_cases hx : x ∈ ops
  · rw [decide_eq_true (h.mpr hx), isOp_iff.mpr hx]
  · rw [decide_eq_false (fun q => hx (h.mp q))]
    cases e : isOp x with
    | false => rfl
    | true => exact absurd (isOp_iff.mp e) hx
/-- every sign of an operator is an operator by itself -/
theorem signs_ops : ops.all (fun y => decide (y.length ≤ 3) && y.cps.toList.all fun c => decide ((⟨#[c]⟩ : Str) ∈ ops)) = true := by decide +kernel
theorem op_signs {y : Str} (h : y ∈ ops) : y.length ≤ 3 ∧ ∀ c ∈ y.cps.toList, (⟨#[c]⟩ : Str) ∈ ops := by
  have q := List.all_eq_true.mp signs_ops y h
  rw [Bool.and_eq_true] at q
  exact ⟨of_decide_eq_true q.1, fun c hc => of_decide_eq_true (List.all_eq_true.mp q.2 c hc)⟩
theorem getD_ops {k : Nat} (hk : k < 48) : ops.getD k Str.empty ∈ ops := by
  have h : k < ops.length := by rw [ops_len]; exact hk
  rw [List.getD_eq_getElem?_getD, List.getElem?_eq_getElem h]
  exact List.getElem_mem h
end Mine

namespace Mine
/-- what the text's loop has built so far: at most three signs a turn, each sign an operator by itself -/
def Good (i : Nat) (T : Str) : Prop := T.length ≤ 3 * i ∧ ∀ c ∈ T.cps.toList, (⟨#[c]⟩ : Str) ∈ ops

theorem good_empty : Good 0 (Str.ofString "") := by
  have e : Str.ofString "" = (⟨#[]⟩ : Str) := by decide +kernel
  rw [e]
  exact ⟨Nat.le_refl _, fun c hc => by cases hc⟩

section
variable {prog : Program} {w : World} {A : Around} {E : Value → Shared → Prop} {s : Shared} {env : Env} {h₀ : Heap} {x y₁ : Str} {body : List Stmt} {Q : Flow → Shared → Prop}

def ForEnd (h₀ : Heap) (L : Addr) (x y₁ : Str) (m₀ : Str → Option Value) (D aP aT aR : Addr) (oD oP oR : Obj) (i : Nat) (own : List (Addr × Obj)) (s₁ s₂ : Shared) : Prop :=
  ∃ h' tk m' news' T' tT' oT'', s₂ = { s₁ with heap := h', toks := tk } ∧ Fr h₀ L h' m' ∧ News h₀ L h' news' ∧ (∀ p ∈ [(D, oD), (aP, oP), (aT, oT''), (aR, oR)], p ∈ news') ∧ (∀ p ∈ own, p ∈ news') ∧
    oT''.data = .cell (some (.str T' tT')) ∧ Good i T' ∧ ∀ z, z ≠ x → z ≠ y₁ → m' z = m₀ z

def ForPost (h₀ : Heap) (L : Addr) (x y₁ : Str) (m₀ : Str → Option Value) (D aP aT aR : Addr) (oD oP oR : Obj) (i : Nat) (own : List (Addr × Obj)) (s₁ : Shared) (f : Flow) (s₂ : Shared) : Prop :=
  match f with
  | .ret _ => False
  | .brk => False
  | _ => ForEnd h₀ L x y₁ m₀ D aP aT aR oD oP oR i own s₁ s₂

theorem my_for {l : Addr} {vs : List Value} {ns : List Int} {m₀ : Str → Option Value} {D aP aT aR : Addr} {oD oP oT oR : Obj} {T₀ : Str} {t₀ : Tok} (y₁ : Str)
    (hh : A.handled = none) (hl : h₀.IsList l vs.toArray) (hi : IntsAre vs ns) (F : Fr h₀ env.locals s.heap m₀) (N : News h₀ env.locals s.heap [(D, oD), (aP, oP), (aT, oT), (aR, oR)])
    (hd : oT.data = .cell (some (.str T₀ t₀))) (hg : Good 0 T₀)
    (turn : ∀ i n t T tT oT' (u : Str → Option Value) h tk own, i < ns.length → OwnOff own [D, aP, aT, aR] → oT'.data = .cell (some (.str T tT)) → Good i T →
      Fr h₀ env.locals h (fun y => if y = x then some (.int n t) else if y = y₁ then u y else m₀ y) → News h₀ env.locals h ((D, oD) :: (aP, oP) :: (aT, oT') :: (aR, oR) :: own) →
      wpAny (model prog w) A (execs body env) (ForPost h₀ env.locals x y₁ m₀ D aP aT aR oD oP oR (i + 1) own { s with heap := h, toks := tk }) E { s with heap := h, toks := tk })
    (done : ∀ T tT oT' (u : Str → Option Value) h tk, oT'.data = .cell (some (.str T tT)) → Good ns.length T → Fr h₀ env.locals h (fun y => if y = x then u y else if y = y₁ then u y else m₀ y) →
      News h₀ env.locals h [(D, oD), (aP, oP), (aT, oT'), (aR, oR)] → Q .next { s with heap := h, toks := tk }) :
    wpAny (model prog w) A (pyIter (.ref l)) (fun it s₂ => LoopAtV prog w A h₀ env x body Q E it s₂) E s := by
  have fe : ∀ (m₁ : Str → Option Value), (∀ z, z ≠ x → z ≠ y₁ → m₁ z = m₀ z) → ∀ v : Option Value, (fun y => if y = x then v else m₁ y) = fun y => if y = x then v else if y = y₁ then m₁ y else m₀ y := by
    intro m₁ h v
    funext z
    by_cases h1 : z = x
    · simp [h1]
    · by_cases h2 : z = y₁
      · simp [h2]
      · simp only [if_neg h1, if_neg h2]; exact h z h1 h2
  have fe2 : ∀ (m₁ : Str → Option Value), (∀ z, z ≠ x → z ≠ y₁ → m₁ z = m₀ z) → m₁ = fun y => if y = x then m₁ y else if y = y₁ then m₁ y else m₀ y := by
    intro m₁ h
    funext z
    by_cases h1 : z = x
    · simp [h1]
    · by_cases h2 : z = y₁
      · simp [h2]
      · simp only [if_neg h1, if_neg h2]; exact h z h1 h2
  refine iter_invN (fun i m nx => ∃ T tT oT', nx = [(D, oD), (aP, oP), (aT, oT'), (aR, oR)] ∧ oT'.data = .cell (some (.str T tT)) ∧ Good i T ∧ ∀ z, z ≠ x → z ≠ y₁ → m z = m₀ z) hh hl hi F N ⟨T₀, t₀, oT, rfl, hd, hg, fun _ _ _ => rfl⟩ ?_ ?_
  · rintro i n t m₁ nx h tk own hn _ hoff ⟨T, tT, oT', rfl, hd', hg', hm⟩ F₁ N₁
    rw [fe m₁ hm] at F₁
    refine wpAny_mono (turn i n t T tT oT' m₁ h tk own (by rw [List.getElem?_eq_some_iff] at hn; exact hn.1) hoff hd' hg' F₁ N₁) (fun f s₂ p => ?_) fun _ _ e => e
    have up : ForEnd h₀ env.locals x y₁ m₀ D aP aT aR oD oP oR (i + 1) own { s with heap := h, toks := tk } s₂ →
        InvEndN h₀ env.locals (fun m nx => ∃ T tT oT', nx = [(D, oD), (aP, oP), (aT, oT'), (aR, oR)] ∧ oT'.data = .cell (some (.str T tT)) ∧ Good (i + 1) T ∧ ∀ z, z ≠ x → z ≠ y₁ → m z = m₀ z) own ([(D, oD), (aP, oP), (aT, oT), (aR, oR)].map (·.1)) { s with heap := h, toks := tk } s₂ := by
      rintro ⟨h', tk', m', news', T', tT', oT'', e, F', N', hn', ho', hd'', hg'', hm'⟩
      exact ⟨h', tk', m', news', _, e, F', N', hn', ho', rfl, T', tT', oT'', rfl, hd'', hg'', hm'⟩
    cases f with
    | ret v => exact p.elim
    | brk => exact p.elim
    | next => exact up p
    | cont => exact up p
  · rintro m₁ nx h tk ⟨T, tT, oT', rfl, hd', hg', hm⟩ F₁ N₁
    rw [fe2 m₁ hm] at F₁
    exact done T tT oT' m₁ h tk hd' hg' F₁ N₁

theorem len_row {a : Addr} {l : List Value} {Q : Value → Shared → Prop} (hl : s.heap.IsList a l.toArray) (hi : StrsAre l ops)
    (h : Q (.int 48 (s.toks + 1)) { s with toks := s.toks + 1 + 1 }) : wpAny (model prog w) A (call (.builtin "len") [.ref a]) Q E s :=
  len_strsA hl hi (by rw [ops_len]; decide) (by rw [ops_len]; exact h)
theorem item_row {value slice : PySem.Expr} {a : Addr} {l : List Value} {k : Int} {u : Tok} {Q : Value → Shared → Prop} (hl : s.heap.IsList a l.toArray) (hi : StrsAre l ops)
    (h0 : 0 ≤ k) (hk : k < 48) (h : ∀ t', Q (.str (ops.getD k.toNat Str.empty) t') s)
    (hs : subscripted slice false (.ref a) (.int k u) = operate [.ref a, .int k u] (getItem (.ref a) (.int k u)) := by with_unfolding_all rfl) (hg : ∀ r, letTemporaryGo value (.ref a) r = pure () := by intro _; with_unfolding_all rfl) :
    wpAny (model prog w) A (subscriptTail value slice (.ref a) (.int k u)) Q E s :=
  item_strsA hl hi h0 (by rw [ops_len]; exact hk) (by omega) h hs hg
theorem get_row {d : Addr} {k : Int} {t u : Tok} {Q : Value → Shared → Prop} (T : StrTab prog w s.heap d tabD) (h0 : 0 ≤ k) (hk : k < 48)
    (h : ∀ t', Q (.int (7 + k) t') { s with toks := s.toks + 1 }) : wpAny (model prog w) A (call (.builtin "dict.get") [.ref d, .str (ops.getD k.toNat Str.empty) t, .int 0 u]) Q E s := by
  refine call_get2_strTab T (dd := .int 0) (.int 0 u) fun v hv => ?_
  rw [lookup_ops (by omega : k.toNat < 48)] at hv
  obtain ⟨t', rfl⟩ := hv.int_inv
  rw [show (k.toNat : Int) = k from Int.toNat_of_nonneg h0]
  exact h t'
theorem fmod_low (n : Int) : 0 ≤ n.fmod 48 ∧ n.fmod 48 < 48 := by
  rw [Int.fmod_eq_emod_of_nonneg _ (by decide)]
  exact ⟨Int.emod_nonneg _ (by decide), Int.emod_lt_of_pos _ (by decide)⟩
theorem good_step {i : Nat} {T : Str} {k : Int} (hg : Good i T) (h0 : 0 ≤ k) (hk : k < 48) : Good (i + 1) (T ++ ops.getD k.toNat Str.empty) := by
  have hm := op_signs (getD_ops (by omega : k.toNat < 48))
  refine ⟨?_, fun c hc => ?_⟩
  · rw [Str.length_append]
    have := hg.1
    have := hm.1
    omega
  · rw [Str.cps_append, Array.toList_append] at hc
    rcases List.mem_append.mp hc with h | h
    · exact hg.2 c h
    · exact hm.2 c h
theorem good_fits {i n : Nat} {T : Str} {k : Int} (hg : Good i T) (h0 : 0 ≤ k) (hk : k < 48) (hi : i < n) (hn : ¬ ((63 : Nat) : Int) < (n : Int)) : T.length + (ops.getD k.toNat Str.empty).length ≤ sizeLine := by
  have hm := op_signs (getD_ops (by omega : k.toNat < 48))
  have h1 := hg.1
  have h2 := hm.1
  show _ ≤ 2 ^ 24
  omega
theorem for_end {L : Addr} {m₀ m' : Str → Option Value} {D aP aT aR : Addr} {oD oP oR oT'' : Obj} {i : Nat} {own : List (Addr × Obj)} {s₁ : Shared} {h' : Heap} {tk : Nat} {T' : Str} {tT' : Tok}
    (F : Fr h₀ L h' m') (N : News h₀ L h' ((D, oD) :: (aP, oP) :: (aT, oT'') :: (aR, oR) :: own)) (hd : oT''.data = .cell (some (.str T' tT'))) (hg : Good i T') (hm : ∀ z, z ≠ x → z ≠ y₁ → m' z = m₀ z) :
    ForEnd h₀ L x y₁ m₀ D aP aT aR oD oP oR i own s₁ { s₁ with heap := h', toks := tk } :=
  ⟨h', tk, m', _, T', tT', oT'', rfl, F, N, fun _ hp => List.mem_append_left own hp, fun _ hp => List.mem_append_right [(D, oD), (aP, oP), (aT, oT''), (aR, oR)] hp, hd, hg, hm⟩
end
end Mine

namespace Mine
def Stop (P : Prop) : Prop := P
theorem stop {P : Prop} (h : Stop P) : P := h

/-- the signs of the texts, on end -/
def flat (cs : List Str) : List Nat := cs.flatMap fun y => y.cps.toList
/-- what has been cut from the left: the pieces on end are the text up to the place -/
def Cut (T : Str) (p : Int) (cs : List Str) : Prop := 0 ≤ p ∧ p ≤ T.length ∧ flat cs = T.cps.toList.take p.toNat ∧ (cs.length : Int) ≤ p
theorem cut_nil (T : Str) : Cut T 0 [] := ⟨Int.le_refl _, by omega, rfl, Int.le_refl _⟩

section
variable {prog : Program} {w : World} {A : Around} {E : Value → Shared → Prop} {s : Shared} {env : Env} {h₀ : Heap} {L : Addr} {body : List Stmt} {Q : Flow → Shared → Prop}
def WhEnd (h₀ : Heap) (L : Addr) (y₁ y₂ : Str) (m₀ : Str → Option Value) (T : Str) (C D aP aT aR : Addr) (oD oT oR : Obj) (s₁ : Shared) (p : Int) (s₂ : Shared) : Prop :=
  ∃ h' tk m' news' p' tp' oP' vs cs nn, s₂ = { s₁ with heap := h', toks := tk } ∧ Fr h₀ L h' m' ∧ News h₀ L h' news' ∧ (∀ e ∈ [(C, listOf (List.toArray vs) nn), (D, oD), (aP, oP'), (aT, oT), (aR, oR)], e ∈ news') ∧
    oP'.data = .cell (some (.int p' tp')) ∧ StrsAre vs cs ∧ Cut T p' cs ∧ (∀ z, z ≠ y₁ → z ≠ y₂ → m' z = m₀ z) ∧ p < p'
def WhPost (h₀ : Heap) (L : Addr) (y₁ y₂ : Str) (m₀ : Str → Option Value) (T : Str) (C D aP aT aR : Addr) (oD oT oR : Obj) (s₁ : Shared) (p : Int) (f : Flow) (s₂ : Shared) : Prop :=
  match f with
  | .ret _ => False
  | .brk => False
  | _ => WhEnd h₀ L y₁ y₂ m₀ T C D aP aT aR oD oT oR s₁ p s₂

theorem my_while {test : PySem.Expr} {pos : Pos} {m₀ : Str → Option Value} {C D aP aT aR : Addr} {oD oP oT oR : Obj} {T : Str} {t₀ : Tok} {c₀ : Nat} (y₁ y₂ : Str)
    (F : Fr h₀ L s.heap m₀) (N : News h₀ L s.heap [(C, listOf #[] c₀), (D, oD), (aP, oP), (aT, oT), (aR, oR)]) (hd : oP.data = .cell (some (.int 0 t₀)))
    (turn : ∀ p tp oP' vs cs nn (u : Str → Option Value) h tk, oP'.data = .cell (some (.int p tp)) → StrsAre vs cs → Cut T p cs →
      Fr h₀ L h (fun y => if y = y₁ then u y else if y = y₂ then u y else m₀ y) → News h₀ L h [(C, listOf (List.toArray vs) nn), (D, oD), (aP, oP'), (aT, oT), (aR, oR)] →
      wpAny (model prog w) A (isTrue test env (eval test env)) (fun b s₂ =>
        if b = true then wpAny (model prog w) A (execs body env) (WhPost h₀ L y₁ y₂ m₀ T C D aP aT aR oD oT oR s p) E s₂ else Q .next s₂) E { s with heap := h, toks := tk })
    (hE : PassesOwn (model prog w) A env E) :
    wpAny (model prog w) A (exec (.While test body [] pos) env) Q E s := by
  have fe2 : ∀ (m₁ : Str → Option Value), (∀ z, z ≠ y₁ → z ≠ y₂ → m₁ z = m₀ z) → m₁ = fun y => if y = y₁ then m₁ y else if y = y₂ then m₁ y else m₀ y := by
    intro m₁ h
    funext z
    by_cases h1 : z = y₁
    · simp [h1]
    · by_cases h2 : z = y₂
      · simp [h2]
      · simp only [if_neg h1, if_neg h2]; exact h z h1 h2
  refine While_inv2 (fun n m nx => ∃ p tp oP' vs cs nn, nx = [(C, listOf (List.toArray vs) nn), (D, oD), (aP, oP'), (aT, oT), (aR, oR)] ∧ n = ((T.length : Int) - p).toNat ∧ oP'.data = .cell (some (.int p tp)) ∧ StrsAre vs cs ∧ Cut T p cs ∧ ∀ z, z ≠ y₁ → z ≠ y₂ → m z = m₀ z)
    (n₀ := ((T.length : Int) - 0).toNat) F N ⟨0, t₀, oP, [], [], c₀, rfl, rfl, hd, .nil, cut_nil T, fun _ _ _ => rfl⟩ ?_ hE
  rintro n m₁ nx h tk F₁ N₁ ⟨p, tp, oP', vs, cs, nn, rfl, rfl, hd', hs, hc, hm⟩
  rw [fe2 m₁ hm] at F₁
  refine wpAny_mono (turn p tp oP' vs cs nn m₁ h tk hd' hs hc F₁ N₁) (fun b s₂ q => ?_) fun _ _ x => x
  cases b with
  | false => simpa using q
  | true =>
    simp only [if_true] at q ⊢
    refine wpAny_mono q (fun f s₃ q => ?_) fun _ _ x => x
    cases f with
    | ret v => exact q.elim
    | brk => exact q.elim
    | next =>
      obtain ⟨h', tk', m', news', p', tp', oP'', vs', cs', nn', rfl, F', N', hn, hd'', hs', hc', hm', hlt⟩ := q
      refine ⟨h', tk', m', _, ((T.length : Int) - p').toNat, rfl, F', fun e he => N' e (hn e he), ?_, p', tp', oP'', vs', cs', nn', rfl, rfl, hd'', hs', hc', hm'⟩
      have := hc'.2.1
      have := hc.1
      omega
    | cont =>
      obtain ⟨h', tk', m', news', p', tp', oP'', vs', cs', nn', rfl, F', N', hn, hd'', hs', hc', hm', hlt⟩ := q
      refine ⟨h', tk', m', _, ((T.length : Int) - p').toNat, rfl, F', fun e he => N' e (hn e he), ?_, p', tp', oP'', vs', cs', nn', rfl, rfl, hd'', hs', hc', hm'⟩
      have := hc'.2.1
      have := hc.1
      omega
end

/-- does the piece of this size at this place lie in the text, an operator? -/
def Fits (T : Str) (p k : Int) : Bool := isOp (Txt.slice T (some p) (some (p + k))) && decide (p + k ≤ T.length)
section
variable {T : Str} {p k : Int}
theorem fits_yes (h : (PySem.Spec.lookup (.str (Txt.slice T (some p) (some (p + k)))) tabD).isSome = true) (h2 : p + k ≤ T.length) : true = Fits T p k := by
  rw [lookup_isOp] at h
  unfold Fits
  rw [h, decide_eq_true h2]; rfl
theorem fits_yesR (h : isOp (Txt.slice T (some p) (some (p + k))) = true) (h2 : p + k ≤ T.length) : true = Fits T p k := by
  unfold Fits
  rw [h, decide_eq_true h2]; rfl
theorem fits_over (h2 : ¬ p + k ≤ T.length) : false = Fits T p k := by
  unfold Fits
  rw [decide_eq_false h2, Bool.and_false]
theorem fits_no (h : (PySem.Spec.lookup (.str (Txt.slice T (some p) (some (p + k)))) tabD).isSome = false) : false = Fits T p k := by
  rw [lookup_isOp] at h
  unfold Fits
  rw [h, Bool.false_and]
theorem fits_noR (h : isOp (Txt.slice T (some p) (some (p + k))) = false) : false = Fits T p k := by
  unfold Fits
  rw [h, Bool.false_and]
end
def TestEnd (h₀ : Heap) (L : Addr) (m : Str → Option Value) (s : Shared) (news : List (Addr × Obj)) (b ok : Bool) (s' : Shared) : Prop :=
  ok = b ∧ ∃ h' tk', s' = { s with heap := h', toks := tk' } ∧ Fr h₀ L h' m ∧ News h₀ L h' news
theorem test_end {h₀ : Heap} {L : Addr} {m : Str → Option Value} {s : Shared} {news : List (Addr × Obj)} {b ok : Bool} {h' : Heap} {tk' : Nat} (e : ok = b) (F : Fr h₀ L h' m) (N : News h₀ L h' news) :
    TestEnd h₀ L m s news b ok { s with heap := h', toks := tk' } := ⟨e, h', tk', rfl, F, N⟩
section
open LCt LCg
variable {prog : Program} {w : World} {A : Around} {s : Shared} {h₀ : Heap} {L : Addr} {m : Str → Option Value} {env : Env}
/-- a comprehension's turns over written ints, whose one test changes nothing and whose element is the name itself: the ints that pass -/
theorem rest_ints {ct : PySem.Expr} {x : Str} {px : Pos} {scope : Scope} {cl : List (Str × Addr)} {S : List (Addr × Obj) → Prop} {Fin : List Value → List (Addr × Obj) → Prop} {news : List (Addr × Obj)} {its : Array Value} (q : Int → Bool)
    (hx : scope.names.lookup x = some .local) (hk : scope.kind = .function) (hdb : (x == ("__debug__" : Str)) = false) (hS : S news)
    (test : ∀ k t I oI C oC D m₂ h tk (E' : Value → Shared → Prop) ys, NsObj oC m₂ → m₂ x = some (.int k t) → Fr h₀ L h m → News h₀ L h ((I, oI) :: (C, oC) :: (D, lst ys) :: news) →
      wpAny (model prog w) A (isTrue ct (compEnvC scope cl C env) (eval ct (compEnvC scope cl C env))) (TestEnd h₀ L m s ((I, oI) :: (C, oC) :: (D, lst ys) :: news) (q k)) E' { s with heap := h, toks := tk }) :
    ∀ (r : List Int) (vr : List Value), IntsAre vr r → ∀ (i : Nat) (ys : List Value) (zs : List Int), IntsAre ys zs → (∀ j, its[i + j]? = vr[j]?) → (∀ ys', IntsAre ys' (zs ++ r.filter q) → Fin ys' news) →
      CompRestT prog w A h₀ L m env ct (.Name x px) x scope cl s S (fun i v => its[i]? = some v) Fin r.length i ys news
  | [], _, _, i, ys, zs, hy, _, fin => CompRestT.zero (fin ys (by simpa using hy))
  | k :: r, _, .cons _ t (vs := vr) hr, i, ys, zs, hy, hits, fin => by
    have ih := rest_ints (px := px) (Fin := Fin) (its := its) q hx hk hdb hS test r vr hr (i + 1)
    have hits' : ∀ j, its[i + 1 + j]? = vr[j]? := fun j => by
      have := hits (j + 1)
      rw [show i + (j + 1) = i + 1 + j by omega] at this
      simpa using this
    refine CompRestT.succ fun v I oI C oC D m₂ h tk E' hv hC hxm F N off ne => ?_
    have hv0 := hits 0
    have hv' : its[i]? = some v := hv
    rw [Nat.add_zero, hv'] at hv0
    have hv1 : v = .int k t := by simpa using hv0
    subst hv1
    refine wpAny_mono (test k t I oI C oC D m₂ h tk E' ys hC hxm F N) (fun ok s' hok => ?_) fun _ _ e => e
    obtain ⟨rfl, h', tk', rfl, F', N'⟩ := hok
    cases hq : q k with
    | true =>
      simp only [if_true]
      have zC := (N' (C, oC) (List.mem_cons_of_mem _ List.mem_cons_self)).1
      refine wpAny_Name (wpAny_loadName_local (by exact hk) (lookup_relabel_local hx) (hC.ns zC) hxm ?_) hdb
      refine CompEnd.intro F' N' news (fun p hp => hp) off hS ?_
      refine ih (ys ++ [.int k t]) (zs ++ [k]) (IntsAre.append hy (.cons k t .nil)) hits' fun ys' h' => fin ys' ?_
      rw [List.filter_cons, if_pos hq]
      simpa using h'
    | false =>
      simp only [Bool.false_eq_true, if_false]
      refine CompEnd.intro F' N' news (fun p hp => hp) off hS ?_
      refine ih ys zs hy hits' fun ys' h' => fin ys' ?_
      rw [List.filter_cons, if_neg (by rw [hq]; exact Bool.false_ne_true)]
      exact h'
theorem rest_123 {ct : PySem.Expr} {x : Str} {px : Pos} {scope : Scope} {cl : List (Str × Addr)} {S : List (Addr × Obj) → Prop} {Fin : List Value → List (Addr × Obj) → Prop} {news : List (Addr × Obj)} {a b c : Int} {t₁ t₂ t₃ : Tok} (q : Int → Bool)
    (hx : scope.names.lookup x = some .local) (hk : scope.kind = .function) (hdb : (x == ("__debug__" : Str)) = false) (hS : S news)
    (fin : ∀ ys', IntsAre ys' ([a, b, c].filter q) → Fin ys' news)
    (test : ∀ k t I oI C oC D m₂ h tk (E' : Value → Shared → Prop) ys, NsObj oC m₂ → m₂ x = some (.int k t) → Fr h₀ L h m → News h₀ L h ((I, oI) :: (C, oC) :: (D, lst ys) :: news) →
      wpAny (model prog w) A (isTrue ct (compEnvC scope cl C env) (eval ct (compEnvC scope cl C env))) (TestEnd h₀ L m s ((I, oI) :: (C, oC) :: (D, lst ys) :: news) (q k)) E' { s with heap := h, toks := tk }) :
    CompRestT prog w A h₀ L m env ct (.Name x px) x scope cl s S (fun i v => (#[Value.int a t₁, Value.int b t₂, Value.int c t₃] : Array Value)[i]? = some v) Fin 3 0 [] news :=
  rest_ints (its := #[Value.int a t₁, Value.int b t₂, Value.int c t₃]) q hx hk hdb hS test [a, b, c] [Value.int a t₁, Value.int b t₂, Value.int c t₃] (.cons _ _ (.cons _ _ (.cons _ _ .nil))) 0 [] [] .nil (fun j => by simp) fun ys' h => fin ys' (by simpa using h)
end
section
variable {prog : Program} {w : World} {A : Around} {E : Value → Shared → Prop} {s : Shared} {h₀ : Heap} {L : Addr} {m : Str → Option Value} {news : List (Addr × Obj)}
/-- max of a list whose greatest int is known -/
theorem max_here {l : Addr} {vs : List Value} {ns : List Int} {M : Int} {Q : Value → Shared → Prop} (F : Fr h₀ L s.heap m) (N : News h₀ L s.heap news) (hl : s.heap.IsList l vs.toArray) (hi : IntsAre vs ns) (hM : M ∈ ns) (hle : ∀ b ∈ ns, b ≤ M) (hh : A.handled = none)
    (h : ∀ h' (t : Tok) tk, Fr h₀ L h' m → News h₀ L h' news → Q (.int M t) { s with heap := h', toks := tk }) : wpAny (model prog w) A (call (.builtin "max") [.ref l]) Q E s :=
  max_list_N hh F N hl hi (List.length_pos_of_mem hM) fun h' M' t tk F' N' hM' hle' => by
    have e : M' = M := Int.le_antisymm (hle M' hM') (hle' M hM)
    rw [e]
    exact h h' t tk F' N'
end
end Mine

namespace Mine
theorem slice_eq {T : Str} {i j : Int} (h0 : 0 ≤ i) (h1 : i ≤ j) (h2 : j ≤ T.length) : Txt.slice T (some i) (some j) = ⟨((T.cps.toList.drop i.toNat).take (j - i).toNat).toArray⟩ :=
  eq_of_beq (slice_closesL h0 h1 h2)
theorem fits_one {n : Nat} {T : Str} {p : Int} (hg : Good n T) (h0 : 0 ≤ p) (hp : p < T.length) : Fits T p 1 = true := by
  have hlen : T.length = T.cps.toList.length := by rw [Array.length_toList]; rfl
  have hlt : p.toNat < T.cps.toList.length := by omega
  unfold Fits
  rw [slice_eq h0 (by omega) (by omega), show (p + 1 - p).toNat = 1 by omega, List.drop_eq_getElem_cons hlt, List.take_succ_cons, List.take_zero]
  rw [isOp_iff.mpr (hg.2 _ (List.getElem_mem hlt)), decide_eq_true (by omega), Bool.and_true]
theorem max_of : ∀ {l : List Int} {a : Int}, a ∈ l → ∃ M, M ∈ l ∧ ∀ b ∈ l, b ≤ M
  | [x], a, _ => ⟨x, List.mem_singleton.mpr rfl, fun b hb => by rw [List.mem_singleton.mp hb]; exact Int.le_refl _⟩
  | x :: y :: r, _, _ => by
    obtain ⟨M, h1, h2⟩ := max_of (l := y :: r) (a := y) List.mem_cons_self
    by_cases h : x ≤ M
    · refine ⟨M, List.mem_cons_of_mem _ h1, fun b hb => ?_⟩
      rcases List.mem_cons.mp hb with rfl | hb
      · exact h
      · exact h2 b hb
    · refine ⟨x, List.mem_cons_self, fun b hb => ?_⟩
      rcases List.mem_cons.mp hb with rfl | hb
      · exact Int.le_refl _
      · have := h2 b hb; omega
/-- the sizes that fit: there is a longest; it is positive and stays within the text -/
theorem longest_of {n : Nat} {T : Str} {p : Int} {ms : List Int} (hms : [1, 2, 3].filter (Fits T p) = ms) (hg : Good n T) (h0 : 0 ≤ p) (hp : p < T.length) :
    ms ≠ [] ∧ ms.length ≤ 3 ∧ ∃ M, M ∈ ms ∧ (∀ b ∈ ms, b ≤ M) ∧ 1 ≤ M ∧ p + M ≤ T.length := by
  subst hms
  have h1 : (1 : Int) ∈ [1, 2, 3].filter (Fits T p) := List.mem_filter.mpr ⟨List.mem_cons_self, fits_one hg h0 hp⟩
  obtain ⟨M, hM, hle⟩ := max_of h1
  refine ⟨fun e => (by rw [e] at h1; cases h1), List.length_filter_le _ _, M, hM, hle, hle 1 h1, ?_⟩
  have h2 := (List.mem_filter.mp hM).2
  unfold Fits at h2
  rw [Bool.and_eq_true] at h2
  exact of_decide_eq_true h2.2
theorem flat_snoc (cs : List Str) (y : Str) : flat (cs ++ [y]) = flat cs ++ y.cps.toList := by
  unfold flat
  simp
theorem cut_step {T : Str} {p M : Int} {cs : List Str} (hc : Cut T p cs) (h1 : 1 ≤ M) (h2 : p + M ≤ T.length) : Cut T (p + M) (cs ++ [Txt.slice T (some p) (some (p + M))]) := by
  obtain ⟨h0, hp, hf, hl⟩ := hc
  refine ⟨by omega, h2, ?_, ?_⟩
  · rw [flat_snoc, hf, slice_eq h0 (by omega) h2]
    show T.cps.toList.take p.toNat ++ (T.cps.toList.drop p.toNat).take (p + M - p).toNat = _
    rw [show (p + M - p).toNat = M.toNat by omega, show (p + M).toNat = p.toNat + M.toNat by omega, List.take_add]
  · rw [List.length_append, List.length_singleton]
    omega
theorem join_flat : ∀ cs : List Str, (Str.join ⟨#[]⟩ cs).cps.toList = flat cs
  | [] => rfl
  | [x] => by
    show x.cps.toList = x.cps.toList ++ []
    rw [List.append_nil]
  | x :: y :: r => by
    show ((x ++ (⟨#[]⟩ : Str)) ++ Str.join ⟨#[]⟩ (y :: r)).cps.toList = _
    rw [Str.cps_append, Str.cps_append, Array.toList_append, Array.toList_append, join_flat (y :: r)]
    show (x.cps.toList ++ []) ++ flat (y :: r) = x.cps.toList ++ flat (y :: r)
    rw [List.append_nil]
theorem join_cut {T : Str} {p : Int} {cs : List Str} (hc : Cut T p cs) (hp : ¬ p < T.length) : Txt.join (Str.ofString "") cs = T := by
  have e : Str.ofString "" = (⟨#[]⟩ : Str) := by decide +kernel
  have h1 := hc.2.1
  have hlen : T.length = T.cps.toList.length := by rw [Array.length_toList]; rfl
  rw [e]
  show Builtin.Str.glued _ _ = T
  rw [StrLaws.glued_eq_join]
  refine Str.ext' ?_
  refine Array.toList_inj.mp ?_
  rw [join_flat, hc.2.2.1]
  exact List.take_of_length_le (by omega)
theorem flat_length : ∀ cs : List Str, (cs.map (·.length)).sum = (flat cs).length
  | [] => rfl
  | x :: r => by
    rw [List.map_cons, List.sum_cons, flat_length r]
    show x.length + _ = (x.cps.toList ++ flat r).length
    rw [List.length_append, Array.length_toList]
    rfl
theorem cut_weight {T : Str} {p : Int} {cs : List Str} (hc : Cut T p cs) (hT : T.length ≤ 189) : (cs.map (·.length)).sum + cs.length * (Str.ofString "").length ≤ 16777216 := by
  have e : (Str.ofString "").length = 0 := by decide +kernel
  have hlen : T.length = T.cps.toList.length := by rw [Array.length_toList]; rfl
  rw [e, flat_length, hc.2.2.1, List.length_take]
  omega
theorem cut_size {T : Str} {p : Int} {cs : List Str} {vs : List Value} (hc : Cut T p cs) (hs : StrsAre vs cs) (hT : T.length ≤ 189) : vs.toArray.size ≤ sizeLine := by
  have h1 := hs.len_eq
  have h2 := hc.2.2.2
  have h3 := hc.2.1
  rw [List.size_toArray]
  show _ ≤ 2 ^ 24
  omega
theorem strs_snoc {y : Str} {t : Tok} : ∀ {vs : List Value} {cs : List Str}, StrsAre vs cs → StrsAre (vs ++ [.str y t]) (cs ++ [y])
  | _, _, .nil => .cons y t .nil
  | _, _, .cons z u h => .cons z u (strs_snoc h)
theorem wh_end {h₀ : Heap} {L : Addr} {y₁ y₂ : Str} {m₀ m' : Str → Option Value} {T : Str} {C D aP aT aR : Addr} {oD oT oR oP' : Obj} {s₁ : Shared} {p p' : Int} {h' : Heap} {tk nn : Nat} {news' : List (Addr × Obj)} {vs : List Value} {cs : List Str} {y : Str} {t tp' : Tok}
    (F : Fr h₀ L h' m') (N : News h₀ L h' news') (e1 : (C, listOf (vs.toArray.push (.str y t)) nn) ∈ news') (e2 : (D, oD) ∈ news') (e3 : (aP, oP') ∈ news') (e4 : (aT, oT) ∈ news') (e5 : (aR, oR) ∈ news')
    (hd : oP'.data = .cell (some (.int p' tp'))) (hs : StrsAre vs cs) (hc : Cut T p' (cs ++ [y])) (hm : ∀ z, z ≠ y₁ → z ≠ y₂ → m' z = m₀ z) (hlt : p < p') :
    WhEnd h₀ L y₁ y₂ m₀ T C D aP aT aR oD oT oR s₁ p { s₁ with heap := h', toks := tk } := by
  refine ⟨h', tk, m', news', p', tp', oP', vs ++ [.str y t], cs ++ [y], nn, rfl, F, N, ?_, hd, strs_snoc hs, hc, hm, hlt⟩
  rw [List.push_toArray] at e1
  intro e he
  rcases List.mem_cons.mp he with rfl | he
  · exact e1
  rcases List.mem_cons.mp he with rfl | he
  · exact e2
  rcases List.mem_cons.mp he with rfl | he
  · exact e3
  rcases List.mem_cons.mp he with rfl | he
  · exact e4
  rcases List.mem_cons.mp he with rfl | he
  · exact e5
  · cases he
end Mine

-- the walk's own lines: the row of operators (its length, an item at a remainder), the table's get, the longest size; two places to stand still at
local macro_rules | `(tactic| walk_at "call builtin:len") => `(tactic| (k_here; (with_reducible show wpAny _ _ (call (Value.builtin "len") [Value.ref _]) _ _ _); k_dflt (refine Mine.len_row (News.isList (by k_asm) (by k_memK)) (by assumption) ?_)))
local macro_rules | `(tactic| walk_at "subscriptTail") => `(tactic| (k_here; (with_reducible show wpAny _ _ (subscriptTail _ _ (Value.ref _) (Value.int (Int.fmod _ 48) _)) _ _ _); k_dflt (refine Mine.item_row (News.isList (by k_asm) (by k_memK)) (by assumption) (by assumption) (by assumption) ?_); intro t'))
local macro_rules | `(tactic| walk_at "call builtin:dict.get") => `(tactic| (k_here; (with_reducible show wpAny _ _ (call (Value.builtin "dict.get") [Value.ref _, Value.str (List.getD _ (Int.toNat _) _) _, Value.int 0 _]) _ _ _); k_dflt (refine Mine.get_row (TabAt.ofFr (by with_reducible assumption) (by k_asm)) (by assumption) (by assumption) ?_); intro t'))
local macro_rules | `(tactic| walk_at "call builtin:max") => `(tactic| (k_here; (with_reducible show wpAny _ _ (call (Value.builtin "max") [Value.ref _]) _ _ _); k_dflt (refine Mine.max_here (by k_asm) (by k_asm) (News.isList (by k_asm) (by k_memK)) (by assumption) (by assumption) (by assumption) (by rfl) ?_); intro h' t' k' F' N'; (try k_sweep)))
local macro_rules | `(tactic| walk_at "exec While Compare cons nil") => `(tactic| (k_here; refine Mine.stop ?_))
local macro_rules | `(tactic| walk_at "CompRestT") => `(tactic| (refine Mine.stop ?_))

set_option maxRecDepth 100000 in
set_option maxHeartbeats 8000000 in
theorem PySem.Challenge.cw_wv0076_01_holds : PySem.Challenge.rw_wv0076_01.Holds := by
  w_on
  o_law
  k_head
  (case hw => w_witness2)
  -- the call, to the row of operators that _law_operators gives back
  k_go0; (all_goals try k_fold); k_steps
  rename StrsAre _ _ => hA
  rename (List.map _ _ = Txt.split _ _) => hE
  rw [hE, Mine.split_ops] at hA
  rename StrTab _ _ _ _ _ => tb9
  have tb : StrTab PySem.Challenge.rw_wv0076_01.row.prog _ _ _ Mine.tabD := tb9
  clear tb9
  rename KTD.TextTab _ _ _ => kt9
  clear kt9
  k_steps
  -- the for: the text so far
  rename Fr _ _ _ _ => lF
  rename News _ _ _ _ => lN
  rename (_ = Data.cell (some (Value.str _ _))) => lD
  with_unfolding_all refine Mine.my_for (Str.ofString "name") rfl (by assumption) (by assumption) lF lN lD Mine.good_empty ?_ ?_
  · clear lF lN lD
    intro i n t T tT oT' u h tk own hi hoff hd hg F' N'
    have f0 := (Mine.fmod_low n).1
    have f1 := (Mine.fmod_low n).2
    (try k_unmd); k_fold
    k_steps
    · exact absurd rfl (by assumption)
    · exfalso
      rename ((_ != _) = true) => hne
      simp at hne
    · refine add_str (fun t9 tk9 => ?_) (Mine.good_fits hg f0 f1 hi (by assumption))
      k_steps
      exact Mine.for_end (by assumption) (by assumption) (by assumption) (Mine.good_step hg f0 f1) (by intro z h1 h2; simp only [if_neg h1, if_neg h2])
  · clear lF lN lD
    intro T tT oT' u h tk hd hg F' N'
    dsimp only
    k_steps
    -- the while: what has been cut
    rename Fr _ _ _ _ => lF
    rename News _ _ _ _ => lN
    rename (Obj.data _ = Data.cell (some (Value.int 0 _))) => lP
    have hT : T.length ≤ 189 := by have := hg.1; omega
    show wpAny _ _ _ _ _ _
    with_unfolding_all refine Mine.my_while (T := T) (Str.ofString "longest") (Str.ofString "due") lF lN lP ?turn (by first | passes_own | with_unfolding_all passes_own)
    case turn =>
      clear lF lN lP
      intro p tp oP' vs cs nn u h tk hP hs hc F' N'
      (try k_unmd); k_fold
      k_steps
      · show LCt.CompRestT _ _ _ _ _ _ _ _ _ _ _ _ _ _ _ _ _ _ _ _
        with_unfolding_all refine Mine.rest_123 (Mine.Fits T p) (by rfl) (by rfl) (by decide) (.inr ⟨_, by k_mem, rfl, _, rfl⟩) ?fin ?test
        case test =>
          intro k t I oI C oC D m₂ h tk E' ys hC hm F' N'
          (try k_unmd); k_fold
          k_steps
          · exact Mine.test_end (Mine.fits_yes (by assumption) (by assumption)) (by assumption) (by assumption)
          · exact Mine.test_end (Mine.fits_over (by assumption)) (by assumption) (by assumption)
          · exact Mine.test_end (Mine.fits_no (by assumption)) (by assumption) (by assumption)
        case fin =>
          generalize hms : List.filter (Mine.Fits T p) [1, 2, 3] = ms
          intro ys hys
          obtain ⟨hne, hml, M, hM, hMle, hM1, hMT⟩ := Mine.longest_of hms hg hc.1 (by assumption)
          (try k_unmd)
          k_steps
          show LCt.CompRestT _ _ _ _ _ _ _ _ _ _ _ _ _ _ _ _ _ _ _ _
          with_unfolding_all refine Mine.rest_123 (Mine.Fits T p) (by rfl) (by rfl) (by decide) (.inr ⟨_, by k_mem, rfl, _, rfl⟩) ?fin2 ?test2
          case test2 =>
            intro k t I oI C oC D m₂ h tk E' ys hC hm F' N'
            (try k_unmd); k_fold
            k_steps
            · exact Mine.test_end (Mine.fits_yesR (by assumption) (by assumption)) (by assumption) (by assumption)
            · exact Mine.test_end (Mine.fits_over (by assumption)) (by assumption) (by assumption)
            · exact Mine.test_end (Mine.fits_noR (by assumption)) (by assumption) (by assumption)
          case fin2 =>
            rw [hms]
            intro ys2 hys2
            k_steps
            refine append_K (by k_asm) (by k_asm) (by k_upd) ?_ (Mine.cut_size hc hs hT)
            intro h' F' N'
            (try k_sweep)
            k_steps
            exact Mine.wh_end (by k_asm) (by k_asm) (by k_memK) (by k_memK) (by k_memK) (by k_memK) (by k_memK) (by assumption) hs (Mine.cut_step hc hM1 hMT) (by intro z h1 h2; simp only [if_neg h1, if_neg h2]) (by omega)
      · -- behind the while: the pieces on end are the text
        refine join_list (News.isList (by k_asm) (by k_memK)) hs (Mine.cut_weight hc hT) ?_
        intro t9 k9
        rw [Mine.join_cut hc (by assumption)]
        k_steps
