import PyProof.Rows.All
import Wide.All
import OpenK.AllK
import Wide.FinOn
import PySem.Challenge.RW_sn0035_01
set_option Elab.async false
namespace Mine
section
open PySem PySem.W PyProof.Rows
set_option maxRecDepth 100000
set_option maxHeartbeats 8000000
open_top hd for PySem.Challenge.rw_sn0035_01
end
end Mine
namespace Mine
def Bis (ks : List Int) (x lo hi r : Int) : Prop := lo ≤ r ∧ r ≤ hi ∧ (lo < r → ks.getD (r - 1).toNat 0 ≤ x) ∧ (r < hi → x < ks.getD r.toNat 0)
theorem m_fst (ar : List (Int × Int)) (k : Nat) : (ar.map (·.1)).getD k 0 = (ar.getD k (0, 0)).1 := by
  simp only [List.getD_eq_getElem?_getD, List.getElem?_map]
  cases ar[k]? <;> rfl
def Pl (ar : List (Int × Int)) (k : Nat) : Int := (ar.getD k (0, 0)).1
def Cd (ar : List (Int × Int)) (k : Nat) : Int := (ar.getD k (0, 0)).2
structure Valid (ar : List (Int × Int)) (first last : Nat) (T : Int → Int) : Prop where
  le : first ≤ last
  lt : last < ar.length
  zero : Pl ar first = 0
  inc : ∀ k, first ≤ k → k < last → Pl ar k < Pl ar (k + 1)
  term : ∀ k, first ≤ k → k < last → Cd ar k < 256 → Pl ar (k + 1) = Pl ar k + 1 ∧ T (Pl ar k) = Cd ar k
  non : ∀ k, first ≤ k → k < last → 256 ≤ Cd ar k → ∃ j : Nat, Cd ar k = 256 + j ∧ first + j < k ∧ Pl ar (k + 1) - Pl ar k = Pl ar (first + j + 1) - Pl ar (first + j) + 1 ∧
    ∀ i, 0 ≤ i → i ≤ Pl ar (first + j + 1) - Pl ar (first + j) → T (Pl ar k + i) = T (Pl ar (first + j) + i)
theorem Valid.mono {ar : List (Int × Int)} {first last : Nat} {T : Int → Int} (V : Valid ar first last T) {a b : Nat} (h1 : first ≤ a) (h2 : a < b) (h3 : b ≤ last) : Pl ar a < Pl ar b := by
  induction b with
  | zero => omega
  | succ b ih =>
    have := V.inc b (by omega) (by omega)
    rcases Nat.lt_or_ge a b with h | h
    · have := ih h (by omega); omega
    · have : a = b := by omega
      subst this; assumption
theorem Valid.nonneg {ar : List (Int × Int)} {first last : Nat} {T : Int → Int} (V : Valid ar first last T) {a : Nat} (h1 : first ≤ a) (h3 : a ≤ last) : 0 ≤ Pl ar a := by
  have := V.zero
  rcases Nat.lt_or_ge first a with h | h
  · have := V.mono (Nat.le_refl _) h h3; omega
  · have e : a = first := by omega
    rw [e]; omega
theorem Pl_map (ar : List (Int × Int)) (k : Nat) : (ar.map (·.1)).getD k 0 = Pl ar k := m_fst ar k
theorem Pl_part (ar : List (Int × Int)) (first last k : Nat) (h : first + k < last) : (((ar.take last).drop first).map (·.1)).getD k 0 = Pl ar (first + k) := by
  rw [m_fst]
  unfold Pl
  simp only [List.getD_eq_getElem?_getD, List.getElem?_drop]
  rw [List.getElem?_take_of_lt h]
/-- where the walk of one letter stands -/
structure At (ar : List (Int × Int)) (first last : Nat) (T : Int → Int) (p : Int) (place at_ : Int) : Prop where
  lo : (first : Int) ≤ at_
  hi : at_ < last
  pl : Pl ar at_.toNat ≤ place
  pu : place < Pl ar (at_.toNat + 1)
  same : T place = T p
theorem At.start {ar : List (Int × Int)} {first last : Nat} {T : Int → Int} {p r : Int} (V : Valid ar first last T) (h0 : 0 ≤ p) (h1 : p < Pl ar last)
    (hb : Bis (((ar.take last).drop first).map (·.1)) p 0 ((((ar.take last).drop first).map (·.1)).length : Int) r) : At ar first last T p p (first + r - 1) := by
  obtain ⟨b1, b2, b3, b4⟩ := hb
  have hsl : (((ar.take last).drop first).map (·.1)).length = last - first := by
    have := V.lt
    simp only [List.length_map, List.length_drop, List.length_take]; omega
  rw [hsl] at b2 b4
  have hle := V.le
  have hlt : first < last := by
    rcases Nat.lt_or_ge first last with h | h
    · exact h
    · have : last = first := by omega
      rw [this, V.zero] at h1; omega
  have hr : 0 < r := by
    rcases Int.lt_or_le 0 r with h | h
    · exact h
    · have e : r = 0 := by omega
      subst e
      have := b4 (by omega)
      rw [show (0 : Int).toNat = 0 from rfl, Pl_part ar first last 0 (by omega), Nat.add_zero, V.zero] at this
      omega
  have e1 : (first + r - 1).toNat = first + (r - 1).toNat := by omega
  have e2 : (first + r - 1).toNat + 1 = first + r.toNat := by omega
  refine ⟨by omega, by omega, ?_, ?_, rfl⟩
  · have := b3 hr
    rw [Pl_part ar first last _ (by omega)] at this
    rw [e1]; exact this
  · rw [e2]
    rcases Int.lt_or_le r ((last - first : Nat) : Int) with h | h
    · have := b4 h
      rw [Pl_part ar first last _ (by omega)] at this
      exact this
    · have e : first + r.toNat = last := by omega
      rw [e]; exact h1
theorem At.low {ar : List (Int × Int)} {first last : Nat} {T : Int → Int} {p place at_ : Int} (V : Valid ar first last T) (h : At ar first last T p place at_) (hc : 256 ≤ (ar.getD at_.toNat (0, 0)).2) :
    (first : Int) ≤ first + (ar.getD at_.toNat (0, 0)).2 - 256 ∧ first + (ar.getD at_.toNat (0, 0)).2 - 256 < at_ := by
  have h1 := h.lo
  have h2 := h.hi
  obtain ⟨j, e, hj, _⟩ := V.non at_.toNat (by omega) (by omega) hc
  unfold Cd at e
  omega
theorem At.step {ar : List (Int × Int)} {first last : Nat} {T : Int → Int} {p place at_ r : Int} (V : Valid ar first last T) (h : At ar first last T p place at_) (hc : 256 ≤ (ar.getD at_.toNat (0, 0)).2)
    (hb : Bis (ar.map (·.1)) (place + ((ar.getD (first + (ar.getD at_.toNat (0, 0)).2 - 256).toNat (0, 0)).1 - (ar.getD at_.toNat (0, 0)).1)) (first + (ar.getD at_.toNat (0, 0)).2 - 256) (at_ + 1) r) :
    At ar first last T p (place + ((ar.getD (first + (ar.getD at_.toNat (0, 0)).2 - 256).toNat (0, 0)).1 - (ar.getD at_.toNat (0, 0)).1)) (r - 1) ∧
      (place + ((ar.getD (first + (ar.getD at_.toNat (0, 0)).2 - 256).toNat (0, 0)).1 - (ar.getD at_.toNat (0, 0)).1)).toNat < place.toNat := by
  obtain ⟨g1, g2, g3, g4, g5⟩ := h
  obtain ⟨k, hk⟩ : ∃ k : Nat, at_ = k := ⟨at_.toNat, by omega⟩
  subst hk
  rw [Int.toNat_natCast] at hc hb g3 g4 ⊢
  obtain ⟨j, e, hj, hd, ht⟩ := V.non k (by omega) (by omega) hc
  unfold Cd at e
  rw [e] at hb ⊢
  have el : ((first : Int) + (256 + (j : Int)) - 256).toNat = first + j := by omega
  have el2 : ((first : Int) + (256 + (j : Int)) - 256) = ((first + j : Nat) : Int) := by omega
  rw [el, el2] at hb
  rw [el]
  change Bis _ (place + (Pl ar (first + j) - Pl ar k)) _ _ _ at hb
  change At ar first last T p (place + (Pl ar (first + j) - Pl ar k)) (r - 1) ∧ (place + (Pl ar (first + j) - Pl ar k)).toNat < place.toNat
  obtain ⟨b1, b2, b3, b4⟩ := hb
  have m1 := V.mono (a := first + j) (b := k) (by omega) hj (by omega)
  have n1 := V.nonneg (a := first + j) (by omega) (by omega)
  have hr : ((first + j : Nat) : Int) < r := by
    rcases Int.lt_or_le ((first + j : Nat) : Int) r with h | h
    · exact h
    · have er : r = ((first + j : Nat) : Int) := by omega
      have := b4 (by omega)
      rw [Pl_map, er, Int.toNat_natCast] at this
      omega
  have c1 := b3 hr
  rw [Pl_map] at c1
  refine ⟨⟨by omega, by omega, c1, ?_, ?_⟩, by omega⟩
  · have er : (r - 1).toNat + 1 = r.toNat := by omega
    rw [er]
    rcases Int.lt_or_le r ((k : Int) + 1) with h | h
    · have := b4 h
      rw [Pl_map] at this
      exact this
    · have er : r.toNat = k + 1 := by omega
      rw [er]; omega
  · rw [← g5]
    have := ht (place - Pl ar k) (by omega) (by omega)
    rw [show Pl ar k + (place - Pl ar k) = place by omega] at this
    rw [this]
    congr 1
    omega
theorem At.done {ar : List (Int × Int)} {first last : Nat} {T : Int → Int} {p place at_ : Int} (V : Valid ar first last T) (h : At ar first last T p place at_) (hc : ¬ 256 ≤ (ar.getD at_.toNat (0, 0)).2) :
    (ar.getD at_.toNat (0, 0)).2 = T p := by
  obtain ⟨g1, g2, g3, g4, g5⟩ := h
  obtain ⟨t1, t2⟩ := V.term at_.toNat (by omega) (by omega) (by unfold Cd; omega)
  have e : place = Pl ar at_.toNat := by omega
  rw [← g5, e, t2]; rfl
end Mine
namespace Mine
def laidF (first : Int) : List Int → List (Int × Int) → Int → Option (List (Int × Int))
  | [], ar, _ => some ar
  | c :: cs, ar, place =>
    if 256 ≤ c then
      if 0 ≤ first + c - 256 ∧ first + c - 256 + 1 < ((ar ++ [(place, c)]).length : Int) then
        laidF first cs (ar ++ [(place, c)]) (place + (((ar ++ [(place, c)]).getD (first + c - 256 + 1).toNat (0, 0)).1 - ((ar ++ [(place, c)]).getD (first + c - 256).toNat (0, 0)).1) + 1)
      else none
    else laidF first cs (ar ++ [(place, c)]) (place + 1)
theorem laidF_len {first : Int} : ∀ {cs : List Int} {ar ar' : List (Int × Int)} {place : Int}, laidF first cs ar place = some ar' → ar'.length = ar.length + cs.length
  | [], ar, ar', place, h => by simp only [laidF, Option.some.injEq] at h; rw [h]; rfl
  | c :: cs, ar, ar', place, h => by
    simp only [laidF] at h
    split at h
    · split at h
      · have := laidF_len h; simp at this; simp; omega
      · cases h
    · have := laidF_len h; simp at this; simp; omega
theorem kstB_self' {α β : Type} [DecidableEq α] : True := trivial
end Mine
namespace Mine
open PySem PySem.W PyProof.Rows PySem.Calls PySem.Spec
set_option maxRecDepth 100000
set_option maxHeartbeats 8000000
section
variable {prog : Program} {w : World} {A : Around} {E : Value → Shared → Prop} {s : Shared} {env : Env} {h₀ : Heap} {target : Expr} {body : List Stmt} {Q : Flow → Shared → Prop}
/-- a for over a list of the ledger, whatever its target: the turn may return, may leave, and the ledger may grow -/
theorem kdt_iter {l : Addr} {vs : List Value} {nn : Nat} {m₀ : Str → Option Value} {news : List (Addr × Obj)} (J : Nat → (Str → Option Value) → List (Addr × Obj) → Prop)
    (hh : A.handled = none) (hl : (l, listOf vs.toArray nn) ∈ news) (F : Fr h₀ env.locals s.heap m₀) (N : News h₀ env.locals s.heap news) (hj : J 0 m₀ news)
    (turn : ∀ i v m₁ nx h tk own, vs[i]? = some v → OwnOff own (nx.map (·.1)) → (l, listOf vs.toArray nn) ∈ nx → J i m₁ nx → Fr h₀ env.locals h m₁ → News h₀ env.locals h (nx ++ own) →
      wpAny (model prog w) A (assign target env v) (fun _ s₃ => wpAny (model prog w) A (execs body env) (InvPostG h₀ env.locals (fun m' nx => (l, listOf vs.toArray nn) ∈ nx ∧ J (i + 1) m' nx) own { s with heap := h, toks := tk } Q) E s₃) E { s with heap := h, toks := tk })
    (done : ∀ m₁ nx h tk, J vs.length m₁ nx → Fr h₀ env.locals h m₁ → News h₀ env.locals h nx → Q .next { s with heap := h, toks := tk })
    (hE : PassesOwn (model prog w) A env E) :
    wpAny (model prog w) A (pyIter (.ref l)) (fun it s₂ => codeAny (model prog w) A (.forLoop target it body [] env) (fun r s' => match r with | .ok f => Q f s' | .error e => cameBackBy (model prog w) A env E e s') s₂) E s := by
  have hol := (N _ hl).1
  have hls : s.heap.IsList l vs.toArray := ⟨_, hol, rfl, nn, rfl⟩
  have hlt : l < s.heap.objs.size := Heap.lt_size hol
  refine wpAny_pyIter_list hls ?_
  have W := Walks.list (prog := prog) (w := w) (A := A) hh s.heap.objs.size l (Nat.ne_of_lt hlt) vs.toArray
  have hIn : h₀.get? s.heap.objs.size = none := next_is_new F
  have hLI : env.locals ≠ s.heap.objs.size := fun e => absurd F.ns.lt (e ▸ Nat.lt_irrefl _)
  refine codeAny_forLoop_any (fun k s' => ∃ i h' tk m' nx, s' = { s with heap := h', toks := tk } ∧ i ≤ vs.length ∧ k = vs.length + 1 - i ∧ (h'.IsListIter s.heap.objs.size l i ∧ h'.IsList l vs.toArray) ∧
    Fr h₀ env.locals h' m' ∧ News h₀ env.locals h' nx ∧ (∀ p ∈ nx, p.1 ≠ s.heap.objs.size) ∧ (l, listOf vs.toArray nn) ∈ nx ∧ J i m' nx) ?_ (vs.length + 1) ?_
  · rintro k s' ⟨i, h', tk, m', nx, rfl, hi, rfl, hst, F', N', hoff, hl', hJ⟩
    have kept : ∀ h₁ : Heap, (∀ b o, b ∉ [s.heap.objs.size] → h'.get? b = some o → h₁.get? b = some o) → Fr h₀ env.locals h₁ m' ∧ News h₀ env.locals h₁ nx := fun h₁ hk =>
      ⟨⟨F'.ns.at' fun o e => hk _ o (fun hm => hLI (List.mem_singleton.mp hm)) e, fun b o e => hk b o (fun hm => by rw [List.mem_singleton.mp hm, hIn] at e; cases e) (F'.keep b o e), F'.above⟩,
        fun p hp => ⟨hk _ _ (fun hm => hoff p hp (List.mem_singleton.mp hm)) (N' p hp).1, (N' p hp).2⟩⟩
    rcases Nat.lt_or_ge i vs.length with hlt' | hge
    · refine W.item i _ _ _ (by simpa using hlt') hst fun v h₁ tk₁ hP hst₁ hk₁ => ?_
      obtain ⟨F₁, N₁⟩ := kept h₁ hk₁
      refine letGo_listiter hst₁.1 ?_
      obtain ⟨oI, hoI, _⟩ := id hst₁.1
      have hown : OwnOff [(s.heap.objs.size, oI)] (nx.map (·.1)) := by
        intro p hp b hb
        rw [List.mem_singleton.mp hp]
        obtain ⟨q, hq, rfl⟩ := List.mem_map.mp hb
        exact (hoff q hq).symm
      have N₂ : News h₀ env.locals h₁ (nx ++ [(s.heap.objs.size, oI)]) := by
        intro p hp
        rcases List.mem_append.mp hp with hp | hp
        · exact N₁ p hp
        · rw [List.mem_singleton.mp hp]; exact ⟨hoI, hLI.symm, hIn⟩
      refine wpAny_mono (turn i v m' nx h₁ tk₁ _ (by simpa using hP) hown hl' hJ F₁ N₂) (fun _ s₃ h₃ => wpAny_mono h₃ (fun f s₄ h₄ => ?_) hE) hE
      have fin : InvEndG h₀ env.locals (fun m' nx => (l, listOf vs.toArray nn) ∈ nx ∧ J (i + 1) m' nx) [(s.heap.objs.size, oI)] { s with heap := h₁, toks := tk₁ } s₄ →
          ∃ j, j < vs.length + 1 - i ∧ ∃ i h' tk m' nx, s₄ = { s with heap := h', toks := tk } ∧ i ≤ vs.length ∧ j = vs.length + 1 - i ∧ (h'.IsListIter s.heap.objs.size l i ∧ h'.IsList l vs.toArray) ∧
            Fr h₀ env.locals h' m' ∧ News h₀ env.locals h' nx ∧ (∀ p ∈ nx, p.1 ≠ s.heap.objs.size) ∧ (l, listOf vs.toArray nn) ∈ nx ∧ J i m' nx := by
        rintro ⟨h₄', tk₄, m₄, news₄, nx₄, rfl, F₄, N₄, hn₄, ho₄, ha₄, hl₄, hJ₄⟩
        refine ⟨vs.length + 1 - (i + 1), by omega, i + 1, h₄', tk₄, m₄, nx₄, rfl, hlt', rfl, ⟨?_, ?_⟩, F₄, (fun p hp => N₄ p (hn₄ p hp)), ?_, hl₄, hJ₄⟩
        · have hI4 := (N₄ _ (ho₄ _ (.head _))).1
          exact hst₁.1.at fun o e => by rw [hoI] at e; cases e; exact hI4
        · exact ⟨_, (N₄ _ (hn₄ _ hl₄)).1, rfl, nn, rfl⟩
        · intro p hp
          exact (ha₄ _ (.head _) p.1 (List.mem_map.mpr ⟨p, hp, rfl⟩)).symm
      cases f with
      | ret v => exact h₄
      | brk => exact h₄
      | next => exact fin h₄
      | cont => exact fin h₄
    · have e : i = vs.length := Nat.le_antisymm hi hge
      subst e
      refine W.done _ _ _ (by simpa using hst) fun h₁ tk₁ hk₁ => wpAny_execs_nil ?_
      obtain ⟨F₁, N₁⟩ := kept h₁ hk₁
      exact done m' nx h₁ tk₁ hJ F₁ N₁
  · refine ⟨0, _, s.toks, m₀, news, rfl, Nat.zero_le _, rfl, ⟨⟨_, Heap.get?_push_size _ rfl, rfl, rfl⟩, hls.at fun o e => Heap.get?_push_of_some _ e⟩, F.push _, ?_, ?_, hl, hj⟩
    · exact fun p hp => ⟨Heap.get?_push_of_some _ (N p hp).1, (N p hp).2⟩
    · exact fun p hp e => absurd (Heap.lt_size (N p hp).1) (e ▸ Nat.lt_irrefl _)
end
end Mine
namespace Mine
open PySem PySem.W PyProof.Rows PySem.Calls PySem.Spec
set_option maxRecDepth 100000
set_option maxHeartbeats 8000000
section
variable {prog : Program} {w : World} {A : Around} {h₀ : Heap} {L : Addr} {m : Str → Option Value} {env : Env} {elt : Expr} {x : Str} {scope : Scope} {cl : List (Str × Addr)} {s : Shared} {S : List (Addr × Obj) → Prop} {P : Nat → Value → Prop}
  {Fin : List Value → List (Addr × Obj) → Prop} {n : Nat}
/-- the turns of a list comprehension, held together by what stays so -/
theorem comp_inv (J : Nat → List Value → List (Addr × Obj) → Prop)
    (turn : ∀ i ys news, i < n → J i ys news → ∀ v I oI C oC D m₂ h tk (E' : Value → Shared → Prop), P i v → LCg.NsObj oC m₂ → m₂ x = some v → Fr h₀ L h m → News h₀ L h ((I, oI) :: (C, oC) :: (D, LCg.lst ys) :: news) → LCg.Off3 I C D news →
      ((@Ne Nat I C) ∧ (@Ne Nat I D) ∧ (@Ne Nat C D)) →
      wpAny (model prog w) A (eval elt (compEnvC scope cl C env)) (LCg.CompEnd h₀ L m { s with heap := h, toks := tk } I oI C oC D (LCg.lst ys) S (fun y news' => J (i + 1) (ys ++ [y]) news')) E' { s with heap := h, toks := tk })
    (done : ∀ ys news, J n ys news → Fin ys news) :
    ∀ k i ys news, i + k = n → J i ys news → LCg.CompRest prog w A h₀ L m env elt x scope cl s S P Fin k i ys news
  | 0, i, ys, news, e, hj => LCg.CompRest.zero (done ys news (by rw [← e]; exact hj))
  | k + 1, i, ys, news, e, hj => LCg.CompRest.succ fun v I oI C oC D m₂ h tk E' hP hC hx F N off ne =>
    wpAny_mono (turn i ys news (by omega) hj v I oI C oC D m₂ h tk E' hP hC hx F N off ne)
      (fun y s₂ ⟨h', tk', news', e', F', N', off', hS', r⟩ => ⟨h', tk', news', e', F', N', off', hS', comp_inv J turn done k (i + 1) (ys ++ [y]) news' (by omega) r⟩) fun _ _ z => z
end
end Mine
namespace Mine
open PySem PySem.W PyProof.Rows PySem.Calls PySem.Spec
set_option maxRecDepth 100000
set_option maxHeartbeats 8000000
open PySem.Builtin.Re PySem.Builtin
theorem slot_search : Slot "re.Pattern" "search" "re.Pattern.search" :=
  .of (owner := "re.Pattern") (n := "search") (by rw [typeLookup_type, builtinLookup_eq_fast]; kernel_rfl) (by decide +kernel) (by decide +kernel) (by decide +kernel)
    (by first | exact .inl (by decide +kernel) | exact .inr (by decide +kernel)) (by rw [isSubtype_type]; kernel_rfl)
theorem type_search : typeOf (.builtin "re.Pattern.search") = pure (.type "method_descriptor") := by show builtinType _ = _; rw [builtinType_eq_fast]; kernel_rfl
theorem entry_search : entryFor table "re.Pattern.search" = some Builtin.«re.Pattern.search» := entryFor_of_tree (by kernel_rfl)
theorem args_search (a b : Value) : argsOk "re.Pattern.search" ⟨[a, b], []⟩ := by unfold argsOk; kernel_rfl
theorem plain_search : PlainAttrs "re.Pattern" :=
  ⟨⟨"object.__getattribute__", by rw [typeLookup_type, builtinLookup_eq_fast]; kernel_rfl, by decide +kernel⟩, by rw [typeLookup_type, builtinLookup_eq_fast]; kernel_rfl⟩
section
variable {prog : Program} {w : World} {A : Around} {E : Value → Shared → Prop} {s : Shared}
theorem run_end {M : Model} {A : Around} {Q : Option Sre.M → Shared → Prop} (m : Sre.M) (hrun : (m.runFor 4).outcome = some .failed) (h : Q none s) : wpAny M A (reRunToEnd m) Q E s := by
  unfold reRunToEnd
  refine wpAny_bind ?_
  show wpAny M A (reDrive ((2 ^ 64 - 1) + 1) m) _ E s
  rw [reDrive]
  have e : (m.runFor reTurnSteps).outcome.isSome = true := by show (m.runFor 4).outcome.isSome = true; rw [hrun]; rfl
  show wpAny M A (if (m.runFor reTurnSteps).outcome.isSome = true then pure (m.runFor reTurnSteps) else _) _ E s
  rw [if_pos e]
  refine wpAny_pure ?_
  refine wpAny_bind ?_
  refine wpAny_forIn_list _ (fun _ _ s' => s' = s) _ ?_ ?_ _ _ rfl
  · rintro x rest b s' rfl
    split
    · exact wpAny_bind (wpAny_rule (wpAny_pure rfl))
    · exact wpAny_pure rfl
  · rintro b s' rfl
    show wpAny M A (match (m.runFor 4).outcome with | some .matched => _ | some .failed => _ | some (.stuck why) => _ | none => _) _ E _
    rw [hrun]
    exact wpAny_pure h
theorem search_none {p c : Addr} {po co : Obj} {fs cvs : Array Value} {x : Str} {t : Tok} {Q : Value → Shared → Prop} (hp : s.heap.get? p = some po) (hpc : po.cls = .type "re.Pattern") (hpd : po.data = .fields fs)
    (h6 : fs.getD 6 .none = .int 0 0) (h2 : fs.getD 2 .none = .int 0 0) (h5 : fs.getD 5 .none = .ref c) (hc : s.heap.get? c = some co) (hcd : co.data = .seq cvs 0)
    (hrun : ((Sre.forSearch ((cvs.map reRawOf).map (·.toNat)) x.cps 0 (min (0 : Int).toNat x.cps.size) (min ((2 ^ 63 - 1 : Int)).toNat x.cps.size) false).runFor 4).outcome = some .failed)
    (h : Q .none s) : wpAny (model prog w) A (call (.builtin "re.Pattern.search") [.ref p, .str x t]) Q E s := by
  refine wpAny_call_entry slot_search ⟨po, hp, hpc⟩ entry_search ?_ (args_search _ _)
  unfold Builtin.«re.Pattern.search»
  refine wpAny_bind ?_
  unfold reTarget
  refine wpAny_bind ?_
  refine wpAny_of_eq (show reNamed "re.Pattern.search" "search" ["string", "pos", "endpos"] 1 [.str x t] [] = pure [some (.str x t), none, none] from by rfl) ?_
  refine wpAny_bind (wpAny_pure ?_)
  refine wpAny_bind (wpAny_pure ?_)
  refine wpAny_bind (wpAny_fieldsOf hp hpd ?_)
  refine wpAny_bind ?_
  unfold reTextOf
  refine wpAny_bind (wpAny_pure ?_)
  refine wpAny_pure ?_
  dsimp only
  rw [h6, h5, h2]
  refine wpAny_bind ?_
  refine wpAny_of_eq (show reNoCollectionInside (.str x t) 0 = pure () from rfl) ?_
  refine wpAny_bind ?_
  unfold reRawItems
  refine wpAny_bind ?_
  unfold seqItems?
  refine wpAny_bind (wpAny_load hc ?_)
  rw [hcd]
  refine wpAny_pure (wpAny_pure (wpAny_pure ?_))
  unfold reAnswer
  refine wpAny_bind (run_end _ hrun ?_)
  exact wpAny_pure ⟨_, rfl, h⟩
end
end Mine
namespace Mine
open PySem PySem.W PyProof.Rows PySem.Calls PySem.Spec
set_option maxRecDepth 100000
def codeN : Array Nat := #[14,10,4,1,1,22,0,31,16,127,0,13,7,22,0,31,16,127,0,1]
def codeV : Array Nat := #[14,14,4,1,1,9,4294966783,0,0,2147483648,0,0,0,0,0,13,11,9,4294966783,0,0,2147483648,0,0,0,0,0,1]
def Clean (x : Str) : Prop := ∀ c ∈ x.cps, 32 ≤ c ∧ c < 127
/-- the set does not take c, and what was seen is then S1 -/
def inNot (code : Array Nat) (c : Nat) (S S1 : Sre.Seen) : Bool := match Sre.inSet code c code.size 5 true S with
  | .ok (false, s) => s.words == S1.words && s.others == S1.others
  | _ => false
theorem inNot_eq {code : Array Nat} {c : Nat} {S S1 : Sre.Seen} (h : inNot code c S S1 = true) : Sre.inSet code c code.size 5 true S = .ok (false, S1) := by
  unfold inNot at h
  split at h
  · rename_i s e
    rw [e]
    obtain ⟨a, b⟩ := s
    obtain ⟨a', b'⟩ := S1
    simp only [Bool.and_eq_true, beq_iff_eq] at h
    rw [h.1, h.2]
  · cases h
def S0 : Sre.Seen := ({} : Sre.Seen).add 14
def SN : Sre.Seen := ((S0.add 22).add 16).add 0
def SV : Sre.Seen := (S0.add 9).add 0
theorem setN : ∀ c < 127, 32 ≤ c → (inNot codeN c S0 SN && inNot codeN c SN SN) = true := by decide +kernel
theorem setV : ∀ c < 127, 32 ≤ c → (inNot codeV c S0 SV && inNot codeV c SV SV) = true := by decide +kernel
theorem admit_none {m : Sre.M} {S S1 : Sre.Seen} (h : ∀ k, k < m.lim → Sre.inSet m.code (m.text.getD k 0) m.code.size 5 true S = .ok (false, S1) ∧ Sre.inSet m.code (m.text.getD k 0) m.code.size 5 true S1 = .ok (false, S1)) :
    ∀ (fuel s : Nat) (T : Sre.Seen), T = S ∨ T = S1 → ∃ T', Sre.M.admitted m fuel s T = .ok (none, T') := by
  intro fuel
  induction fuel with
  | zero => intro s T _; exact ⟨T, rfl⟩
  | succ n ih =>
    intro s T hT
    rw [Sre.M.admitted]
    by_cases hs : s ≥ m.lim
    · rw [if_pos hs]; exact ⟨T, rfl⟩
    · rw [if_neg hs]
      have e : Sre.inSet m.code (m.text.getD s 0) m.code.size 5 true T = .ok (false, S1) := by
        have := h s (by omega)
        rcases hT with rfl | rfl
        · exact this.1
        · exact this.2
      rw [e]
      exact ih (s + 1) S1 (.inr rfl)
theorem say_false {m : Sre.M} (h1 : m.outcome = none) (h2 : m.frames = []) : ((m.say false).runFor 4).outcome = some .failed := by
  obtain ⟨code, text, lim, start, lastStart, wholeText, mustAdvance, pc, pos, handed, outermost, marks, lastmark, lastindex, loops, inner, frames, weight, answer, seen, outcome⟩ := m
  simp only at h1 h2
  subst h1 h2
  rfl
theorem attempt_none {m : Sre.M} {S1 : Sre.Seen} (h1 : m.outcome = none) (h2 : m.frames = []) (hf : m.hasFirstSet = true)
    (h : ∀ k, k < m.lim → Sre.inSet m.code (m.text.getD k 0) m.code.size 5 true m.seen = .ok (false, S1) ∧ Sre.inSet m.code (m.text.getD k 0) m.code.size 5 true S1 = .ok (false, S1)) (s : Nat) (b : Bool) :
    ((m.attemptFrom s b).runFor 4).outcome = some .failed := by
  obtain ⟨T', e⟩ := admit_none h (m.lim + 1 - s) s m.seen (.inl rfl)
  unfold Sre.M.attemptFrom
  rw [hf, e]
  exact say_false (m := { m with seen := T' }) h1 h2
theorem clean_at {x : Str} (hx : Clean x) {k : Nat} (hk : k < x.cps.size) : 32 ≤ x.cps.getD k 0 ∧ x.cps.getD k 0 < 127 := by
  rw [Array.getD_eq_getD_getElem?, Array.getElem?_eq_getElem hk]
  exact hx _ (Array.getElem_mem hk)
theorem runN {x : Str} (hx : Clean x) : ((Sre.forSearch codeN x.cps 0 (min (0 : Int).toNat x.cps.size) (min ((2 ^ 63 - 1 : Int)).toNat x.cps.size) false).runFor 4).outcome = some .failed := by
  unfold Sre.forSearch
  dsimp only
  split
  · exact say_false rfl rfl
  · refine attempt_none (S1 := SN) rfl rfl rfl (fun k hk => ?_) _ _
    have hk' : k < x.cps.size := Nat.lt_of_lt_of_le hk (Nat.min_le_right _ _)
    have h2 := clean_at hx hk'
    have := setN _ h2.2 h2.1
    simp only [Bool.and_eq_true] at this
    exact ⟨inNot_eq this.1, inNot_eq this.2⟩
theorem runV {x : Str} (hx : Clean x) : ((Sre.forSearch codeV x.cps 0 (min (0 : Int).toNat x.cps.size) (min ((2 ^ 63 - 1 : Int)).toNat x.cps.size) false).runFor 4).outcome = some .failed := by
  unfold Sre.forSearch
  dsimp only
  split
  · exact say_false rfl rfl
  · refine attempt_none (S1 := SV) rfl rfl rfl (fun k hk => ?_) _ _
    have hk' : k < x.cps.size := Nat.lt_of_lt_of_le hk (Nat.min_le_right _ _)
    have h2 := clean_at hx hk'
    have := setV _ h2.2 h2.1
    simp only [Bool.and_eq_true] at this
    exact ⟨inNot_eq this.1, inNot_eq this.2⟩
end Mine
namespace Mine
open PySem PySem.W PyProof.Rows PySem.Calls PySem.Spec
set_option maxRecDepth 100000
def Low (k : Nat × Nat) : Prop := 97 ≤ k.1 ∧ k.1 ≤ 122 ∧ 97 ≤ k.2 ∧ k.2 ≤ 122
def lowS (k : Nat × Nat) : Str := ⟨#[k.1, k.2]⟩
def upS (k : Nat × Nat) : Str := ⟨#[k.1 - 32, k.2 - 32]⟩
theorem lowOf : ∀ c < 123, 97 ≤ c → (Unicode.lowerOf c = [c] ∧ Unicode.lowerOf (c - 32) = [c] ∧ Unicode.upperOf c = [c - 32]) := by decide +kernel
theorem placed_two (a b : Nat) (f : Nat → Nat → List Nat) : placed ⟨#[a, b]⟩ f = (f 0 a ++ f 1 b).toArray := by
  simp [placed]
theorem lowerAt_of {s : Array Nat} {i c : Nat} (h : s[i]? = some c) (hc : c < 931) : Unicode.lowerAt s i = Unicode.lowerOf c := by
  unfold Unicode.lowerAt
  rw [h]
  have : (c == 0x3A3) = false := by rw [beq_eq_false_iff_ne]; omega
  simp [this]
theorem lower_two {a b : Nat} (ha : a < 931) (hb : b < 931) : Txt.lower ⟨#[a, b]⟩ = ⟨(Unicode.lowerOf a ++ Unicode.lowerOf b).toArray⟩ := by
  unfold Txt.lower
  rw [placed_two, lowerAt_of (s := (⟨#[a, b]⟩ : Str).cps) (i := 0) (c := a) rfl ha, lowerAt_of (s := (⟨#[a, b]⟩ : Str).cps) (i := 1) (c := b) rfl hb]
theorem upper_two (a b : Nat) : Txt.upper ⟨#[a, b]⟩ = ⟨(Unicode.upperOf a ++ Unicode.upperOf b).toArray⟩ := by
  unfold Txt.upper
  rw [placed_two]
theorem lower_low {k : Nat × Nat} (h : Low k) : Txt.lower (lowS k) = lowS k := by
  obtain ⟨h1, h2, h3, h4⟩ := h
  unfold lowS
  rw [lower_two (by omega) (by omega), (lowOf k.1 (by omega) h1).1, (lowOf k.2 (by omega) h3).1]; rfl
theorem lower_up {k : Nat × Nat} (h : Low k) : Txt.lower (upS k) = lowS k := by
  obtain ⟨h1, h2, h3, h4⟩ := h
  unfold lowS upS
  rw [lower_two (by omega) (by omega), (lowOf k.1 (by omega) h1).2.1, (lowOf k.2 (by omega) h3).2.1]; rfl
theorem upper_low {k : Nat × Nat} (h : Low k) : Txt.upper (lowS k) = upS k := by
  obtain ⟨h1, h2, h3, h4⟩ := h
  unfold lowS upS
  rw [upper_two, (lowOf k.1 (by omega) h1).2.2, (lowOf k.2 (by omega) h3).2.2]; rfl
/-- the name of the i-th entry: great letters by turns -/
def nmS (i : Nat) (k : Nat × Nat) : Str := if i % 2 = 1 then upS k else lowS k
theorem lower_nm {k : Nat × Nat} (h : Low k) (i : Nat) : Txt.lower (nmS i k) = lowS k := by
  unfold nmS
  split
  · exact lower_up h
  · exact lower_low h
def xS (n : Nat) : Str := ⟨Array.replicate n 120⟩
theorem clean_low {k : Nat × Nat} (h : Low k) : Clean (lowS k) := by
  obtain ⟨h1, h2, h3, h4⟩ := h
  intro c hc
  simp [lowS] at hc
  rcases hc with rfl | rfl <;> omega
theorem clean_up {k : Nat × Nat} (h : Low k) : Clean (upS k) := by
  obtain ⟨h1, h2, h3, h4⟩ := h
  intro c hc
  simp [upS] at hc
  rcases hc with rfl | rfl <;> omega
theorem clean_nm {k : Nat × Nat} (h : Low k) (i : Nat) : Clean (nmS i k) := by
  unfold nmS
  split
  · exact clean_up h
  · exact clean_low h
theorem clean_x (n : Nat) : Clean (xS n) := by
  intro c hc
  simp [xS] at hc
  omega
theorem low_inj {k k' : Nat × Nat} : lowS k = lowS k' ↔ k = k' := by
  obtain ⟨a, b⟩ := k
  obtain ⟨a', b'⟩ := k'
  simp [lowS]
theorem x_inj {n n' : Nat} : xS n = xS n' ↔ n = n' := by
  constructor
  · intro h
    have := congrArg (fun s : Str => s.cps.size) h
    simpa [xS] using this
  · rintro rfl; rfl
theorem len_low (k : Nat × Nat) : (lowS k).length = 2 := rfl
theorem len_up (k : Nat × Nat) : (upS k).length = 2 := rfl
theorem len_nm (i : Nat) (k : Nat × Nat) : (nmS i k).length = 2 := by unfold nmS; split <;> rfl
theorem len_x (n : Nat) : (xS n).length = n := by simp [xS, Str.length]
end Mine
namespace Mine
open PySem PySem.W PyProof.Rows PySem.Calls PySem.Spec
set_option maxRecDepth 100000
set_option maxHeartbeats 8000000
section
variable {prog : Program} {w : World} {A : Around} {E : Value → Shared → Prop} {s : Shared} {env : Env} {h₀ : Heap} {x : Str} {body : List Stmt} {Q : Flow → Shared → Prop}
/-- a for over a range: the ledger may change with the turns -/
theorem kdg_iter {r : Addr} {a b : Int} {t₀ u₀ v₀ : Tok} {n : Nat} {m₀ : Str → Option Value} {news : List (Addr × Obj)} (J : Nat → (Str → Option Value) → List (Addr × Obj) → Prop)
    (hh : A.handled = none) (hr : IsRange s.heap r a b 1 t₀ u₀ v₀) (hsmall : Builtin.Range.small a b 1 = true) (hsz : Builtin.Range.rangeSize a b 1 = (n : Int)) (F : Fr h₀ env.locals s.heap m₀) (N : News h₀ env.locals s.heap news) (hj : J 0 m₀ news)
    (turn : ∀ i t m₁ nx h tk own, i < n → OwnOff own (nx.map (·.1)) → J i m₁ nx → Fr h₀ env.locals h (fun y => if y = x then some (.int (a + (i : Int)) t) else m₁ y) → News h₀ env.locals h (nx ++ own) →
      wpAny (model prog w) A (execs body env) (InvPostG h₀ env.locals (J (i + 1)) own { s with heap := h, toks := tk } Q) E { s with heap := h, toks := tk })
    (done : ∀ m₁ nx h tk, J n m₁ nx → Fr h₀ env.locals h m₁ → News h₀ env.locals h nx → Q .next { s with heap := h, toks := tk }) :
    wpAny (model prog w) A (pyIter (.ref r)) (fun it s₂ => LoopAtV prog w A h₀ env x body Q E it s₂) E s := by
  refine wpAny_pyIter_range hr hsmall ?_
  refine kdr_loop J (LCg.range_walks hh a n) (fun _ h => h) (fun _ h => h) ?_ ?_ ?_ ?_ (by show IsRangeIter _ _ _ _ _; rw [hsz]; simpa using Heap.get?_push_size _ rfl) (F.push _) (fun p hp => ⟨Heap.get?_push_of_some _ (N p hp).1, (N p hp).2⟩) hj ?_ ?_
  · intro i h hi b hb
    rw [List.mem_singleton.mp hb]
    exact ⟨_, hi⟩
  · intro hm
    exact absurd F.ns.lt ((List.mem_singleton.mp hm) ▸ Nat.lt_irrefl _)
  · intro b hb
    rw [List.mem_singleton.mp hb]
    exact next_is_new F
  · intro p hp hI
    exact absurd (Heap.lt_size (N p hp).1) ((List.mem_singleton.mp hI) ▸ Nat.lt_irrefl _)
  · rintro i v m₁ nx h tk own hi ⟨t, rfl⟩ hoff hJ F₁ N₁
    exact turn i t m₁ nx h tk own hi hoff hJ F₁ N₁
  · exact done
end
end Mine
namespace Mine
open PySem PySem.W PyProof.Rows PySem.Calls PySem.Spec
set_option maxRecDepth 100000
set_option maxHeartbeats 8000000
noncomputable abbrev KF (w : World) : Frag := Mine.hd.heap_39 w.params
noncomputable abbrev PG : Program := PySem.Challenge.rw_sn0035_01.row.prog
/-- what a call of the text's does, in any frame: it hands back r and the ledger news', where Ret r news' -/
def Does (w : World) (need : Nat) (f : Value) (vs : List Value) (kw : List (Str × Value)) (news : List (Addr × Obj)) (Ret : Value → List (Addr × Obj) → Prop) : Prop :=
  ∀ (loose : List Str) (mean : ExcName → Option Value) (mg mb : Str → Option Value) (dp un : Nat) (gd : Option (List Code)) (cn : Str) (cs : Scope) (a : Addr) (ccd : Value) (cl : List (Str × Addr)) (outer : List Env) (A₀ : Around) (base h₀ : Heap) (L : Addr) (m : Str → Option Value) (s : Shared)
    (Q E : Value → Shared → Prop),
    Below A₀ base outer h₀ → Fr h₀ L s.heap m → (Mine.hd.heap_39 w.params).In h₀ → News h₀ L s.heap news → Top Mine.hd.view_39 loose mean mg mb h₀ → cs.kind = .function → dp + need < recursionLimit → un + 8 * need < cLine →
    (∀ r news' h' tk', Fr h₀ L h' m → News h₀ L h' news' → Ret r news' → Q r { s with heap := h', toks := tk' }) →
    wpAny (model PySem.Challenge.rw_sn0035_01.row.prog w) (ktrTop dp un gd cn cs L a ccd cl outer) (call f vs kw) Q E s
/-- the archive: a list of pairs of ints, as the ledger bears it -/
abbrev tup2 (p c : Int) (t1 t2 : Nat) (n : Nat) : Obj := { cls := .type "tuple", data := .seq [Value.int p t1, Value.int c t2].toArray n }
structure ArAre (news : List (Addr × Obj)) (vs : List Value) (ar : List (Int × Int)) : Prop where
  len : vs.length = ar.length
  get : ∀ (k : Nat) (p : Int × Int), ar[k]? = some p → ∃ a t1 t2 n, vs[k]? = some (.ref a) ∧ (a, tup2 p.1 p.2 t1 t2 n) ∈ news
theorem ArAre.mono {news news' : List (Addr × Obj)} {vs : List Value} {ar : List (Int × Int)} (h : ArAre news vs ar) (hs : ∀ p ∈ news, p ∈ news') : ArAre news' vs ar :=
  ⟨h.len, fun k p hp => let ⟨a, t1, t2, n, e, hm⟩ := h.get k p hp; ⟨a, t1, t2, n, e, hs _ hm⟩⟩
theorem ArAre.snoc {news : List (Addr × Obj)} {vs : List Value} {ar : List (Int × Int)} (h : ArAre news vs ar) {a : Addr} {p c : Int} {t1 t2 n : Nat} (hm : (a, tup2 p c t1 t2 n) ∈ news) : ArAre news (vs ++ [.ref a]) (ar ++ [(p, c)]) := by
  refine ⟨by simp [h.len], fun k q hq => ?_⟩
  rcases Nat.lt_trichotomy k ar.length with hk | hk | hk
  · rw [List.getElem?_append_left hk] at hq
    obtain ⟨a', t1', t2', n', e, hm'⟩ := h.get k q hq
    exact ⟨a', t1', t2', n', by rw [List.getElem?_append_left (by rw [h.len]; exact hk)]; exact e, hm'⟩
  · subst hk
    simp at hq
    subst hq
    exact ⟨a, t1, t2, n, by rw [← h.len]; simp, hm⟩
  · rw [List.getElem?_eq_none (by simp; omega)] at hq; cases hq
def Hold (P : Prop) : Prop := P
theorem Hold.out {P : Prop} (h : Hold P) : P := h
theorem Hold.mk {P : Prop} (h : P) : Hold P := h
section
variable {prog : Program} {w : World} {A : Around} {E : Value → Shared → Prop} {s : Shared} {h₀ : Heap} {L l : Addr}
theorem m_len {news : List (Addr × Obj)} {us : List Value} {n : Nat} {Q : Value → Shared → Prop} (N : News h₀ L s.heap news) (hm : (l, listOf us.toArray n) ∈ news) (hfit : us.length < 1000)
    (h : ∀ t tk, Q (.int (us.length : Int) t) { s with toks := tk }) : wpAny (model prog w) A (call (.builtin "len") [.ref l]) Q E s := by
  have hl : s.heap.IsList l us.toArray := ⟨_, (N _ hm).1, rfl, n, rfl⟩
  have e : us.toArray.size = us.length := by rw [List.size_toArray]
  exact len_list hl (by rw [e]; omega) (by rw [e]; exact h _ _)
theorem m_item {value slice : PySem.Expr} {news : List (Addr × Obj)} {us : List Value} {ns : List Int} {n : Nat} {k : Int} {u : Tok} {Q : Value → Shared → Prop} (N : News h₀ L s.heap news) (hm : (l, listOf us.toArray n) ∈ news) (hd : IntsAre us ns)
    (h0 : 0 ≤ k) (h1 : k < (ns.length : Int)) (hfit : ns.length < 1000) (h : ∀ t, Q (.int (ns.getD k.toNat 0) t) s)
    (hs : subscripted slice false (.ref l) (.int k u) = operate [.ref l, .int k u] (getItem (.ref l) (.int k u)) := by with_unfolding_all rfl) :
    wpAny (model prog w) A (subscriptTail value slice (.ref l) (.int k u)) Q E s := by
  have hl : s.heap.IsList l us.toArray := ⟨_, (N _ hm).1, rfl, n, rfl⟩
  have hk : k.toNat < ns.length := by omega
  obtain ⟨t, ht⟩ := hd.get k.toNat ns[k.toNat] (List.getElem?_eq_getElem hk)
  refine tail_any hl.typeIs slot_list_getitem.lookup (wpAny_getItem_list hl h0 (by omega) (by simpa using ht) ?_) hs
  have := h t
  rw [List.getD_eq_getElem?_getD, List.getElem?_eq_getElem hk] at this
  exact this
theorem m_entry {value slice : PySem.Expr} {news : List (Addr × Obj)} {us : List Value} {ar : List (Int × Int)} {n : Nat} {k : Int} {u : Tok} {Q : Value → Shared → Prop} (N : News h₀ L s.heap news) (hm : (l, listOf us.toArray n) ∈ news) (hd : ArAre news us ar)
    (h0 : 0 ≤ k) (h1 : k < (ar.length : Int)) (hfit : ar.length < 1000) (h : ∀ a t1 t2 n, (a, tup2 (ar.getD k.toNat (0, 0)).1 (ar.getD k.toNat (0, 0)).2 t1 t2 n) ∈ news → Q (.ref a) s)
    (hs : subscripted slice false (.ref l) (.int k u) = operate [.ref l, .int k u] (getItem (.ref l) (.int k u)) := by with_unfolding_all rfl) :
    wpAny (model prog w) A (subscriptTail value slice (.ref l) (.int k u)) Q E s := by
  have hl : s.heap.IsList l us.toArray := ⟨_, (N _ hm).1, rfl, n, rfl⟩
  have hk : k.toNat < ar.length := by omega
  obtain ⟨a, t1, t2, n', ht, hm'⟩ := hd.get k.toNat ar[k.toNat] (List.getElem?_eq_getElem hk)
  refine tail_any hl.typeIs slot_list_getitem.lookup (wpAny_getItem_list hl h0 (by omega) (by simpa using ht) ?_) hs
  have := h a t1 t2 n'
  rw [List.getD_eq_getElem?_getD, List.getElem?_eq_getElem hk] at this
  exact this hm'
theorem m_tup0 {value slice : PySem.Expr} {news : List (Addr × Obj)} {p c : Int} {t1 t2 n : Nat} {u : Tok} {Q : Value → Shared → Prop} (N : News h₀ L s.heap news) (hm : (l, tup2 p c t1 t2 n) ∈ news) (h : Q (.int p t1) s)
    (hs : subscripted slice false (.ref l) (.int 0 u) = operate [.ref l, .int 0 u] (getItem (.ref l) (.int 0 u)) := by with_unfolding_all rfl) :
    wpAny (model prog w) A (subscriptTail value slice (.ref l) (.int 0 u)) Q E s :=
  item_tupleT (News.isTup N hm) (by decide) (by decide) (j := 0) rfl rfl h hs
theorem m_tup1 {value slice : PySem.Expr} {news : List (Addr × Obj)} {p c : Int} {t1 t2 n : Nat} {u : Tok} {Q : Value → Shared → Prop} (N : News h₀ L s.heap news) (hm : (l, tup2 p c t1 t2 n) ∈ news) (h : Q (.int c t2) s)
    (hs : subscripted slice false (.ref l) (.int 1 u) = operate [.ref l, .int 1 u] (getItem (.ref l) (.int 1 u)) := by with_unfolding_all rfl) :
    wpAny (model prog w) A (subscriptTail value slice (.ref l) (.int 1 u)) Q E s :=
  item_tupleT (News.isTup N hm) (by decide) (by decide) (j := 1) rfl rfl h hs
end
local macro_rules | `(tactic| k_room) => `(tactic| ktr_room)
local macro_rules | `(tactic| walk_at "M enter") => `(tactic| (refine wpAny_call ?_; refine' code_def ?k1 ?k2 ?k3 ?k4 ?k5 ?kA ?kF ?kK ?k6 ?k7 ?k8 ?k9 ?kB ?_ ?c2 ?c3 ?c4 ?c5; (case kA => exact rfl); (case kF => exact rfl); (case kK => assumption); (case k1 => k_asm); (case k2 => k_asm); (case k3 => k_asm); (case k4 => k_asm); (case k5 => k_asm); (case k6 => k_is); (case k7 => k_is); (case k8 => ktr_room); (case k9 => (first | exact BindsTo.of_eq rfl | exact binds_K (by k_in) rfl (by k_is) rfl rfl rfl | (refine' kp_binds ?kx ?ke; (case kx => k_in); (case ke => exact fun _ => rfl)))); (case c5 => decide); (case kB => exact locs rfl); (case c2 => exact rfl); (case c3 => exact rfl); (case c4 => exact rfl); k_whole; intro g' L' h' FG' F' N' B' X' T'; (try dsimp only); (try k_lift B'); (try k_fold)))
local macro_rules | `(tactic| k_mem) => `(tactic| assumption)
local macro_rules | `(tactic| walk_at "call builtin:len") => `(tactic| (k_here; (with_reducible show wpAny _ _ (call (Value.builtin "len") [Value.ref _]) _ _ _); k_dflt (refine' m_len ?k1 ?k2 ?k3 ?_; (case k1 => k_asm); (case k2 => k_mem); (case k3 => first | omega | (have := IntsAre.length (by assumption); omega))); k_whole; intro t' tk'))
local macro_rules | `(tactic| walk_at "subscriptTail") => `(tactic| (k_here; (with_reducible show wpAny _ _ (subscriptTail _ _ (Value.ref _) (Value.int _ _)) _ _ _); (first
  | ((with_reducible refine' m_item ?k1 ?k2 ?k3 ?k4 ?k5 ?k6 ?_ ?k7); ((case k1 => k_asm); (case k2 => k_mem); (case k3 => assumption); (case k4 => omega); (case k5 => omega); (case k6 => omega); (case k7 => with_unfolding_all rfl)); intro t')
  | ((with_reducible refine' m_entry ?k1 ?k2 ?k3 ?k4 ?k5 ?k6 ?_ ?k7); ((case k1 => k_asm); (case k2 => k_mem); (case k3 => assumption); (case k4 => omega); (case k5 => omega); (case k6 => omega); (case k7 => with_unfolding_all rfl)); intro ta' tt1' tt2' tn' hent')
  | ((with_reducible refine' m_tup0 ?k1 ?k2 ?_ ?k7); (case k1 => k_asm); (case k2 => k_mem); (case k7 => with_unfolding_all rfl))
  | ((with_reducible refine' m_tup1 ?k1 ?k2 ?_ ?k7); (case k1 => k_asm); (case k2 => k_mem); (case k7 => with_unfolding_all rfl)))))
local macro_rules | `(tactic| walk_at "exec While Compare cons nil") => `(tactic| refine Hold.out ?_)
local macro_rules | `(tactic| walk_at "KswEnd") => `(tactic| refine Hold.out ?_)
theorem mid_lo {lo hi : Int} (h : lo < hi) : lo ≤ (lo + hi).fdiv 2 := by rw [Int.fdiv_eq_ediv_of_nonneg _ (by decide)]; omega
theorem mid_hi {lo hi : Int} (h : lo < hi) : (lo + hi).fdiv 2 < hi := by rw [Int.fdiv_eq_ediv_of_nonneg _ (by decide)]; omega
def BisP (ks : List Int) (x lo₀ hi₀ : Int) (c : Int × Nat × Int × Nat) : Prop := lo₀ ≤ c.1 ∧ c.1 ≤ c.2.2.1 ∧ c.2.2.1 ≤ hi₀ ∧ (lo₀ < c.1 → ks.getD (c.1 - 1).toNat 0 ≤ x) ∧ (c.2.2.1 < hi₀ → x < ks.getD c.2.2.1.toNat 0)
theorem bis1 (w : World) (news : List (Addr × Obj)) (la : Addr) (vs : List Value) (ns : List Int) (nn : Nat) (x : Int) (tx : Tok) (hla : (la, listOf vs.toArray nn) ∈ news) (hI : IntsAre vs ns) (hlen : ns.length < 100) :
    Does w 2 (.ref 47) [.ref la, .int x tx] [] news fun r news' => news = news' ∧ ∃ k t, r = .int k t ∧ Bis ns x 0 ns.length k := by
  unfold Does
  k_fill
  intro loose mean mg mb dp un gd cn cs a ccd cl outer A₀ base h₀ L m s Q E B F X N T hk hd hu hret
  k_dflt walk_at "M enter"
  have hvl : vs.length = ns.length := hI.length
  k_steps
  refine Hold.mk ?_
  rename Fr _ _ _ _ => lF
  rename News _ _ _ _ => lN
  with_unfolding_all refine' ksw_while (σ := Int × Nat × Int × Nat) (fun _ => news) (fun c => [(Str.ofString "lo", Value.int c.1 c.2.1), (Str.ofString "hi", Value.int c.2.2.1 c.2.2.2)]) (fun _ => True) [Str.ofString "mid"] (BisP ns x 0 ns.length) (fun c => (c.2.2.1 - c.1).toNat) (0, _, (vs.length : Int), _) lF lN trivial ?wk ?wp ?wt
  case wk => kst_all
  case wp => refine ⟨Int.le_refl _, ?_, ?_, ?_, ?_⟩ <;> simp [hvl]
  case wt =>
    clear lF lN
    rintro ⟨lo, tlo, hi, thi⟩ u h tk _ ⟨p1, p2, p3, p4, p5⟩ F' N'
    dsimp only [kstB] at p1 p2 p3 p4 p5 F' ⊢
    have q1 := @mid_lo lo hi
    have q2 := @mid_hi lo hi
    k_steps
    · refine Hold.mk ?_
      with_unfolding_all refine' ksw_end (lo, _, (lo + hi).fdiv 2, _) ?zF ?zN ?zn trivial ?zk ?zr ?zp ?zm
      case zF => assumption
      case zN => assumption
      case zn => exact fun _ h => h
      case zk => kst_all
      case zr =>
        intro z e1 e2
        have e3 : z ≠ Str.ofString "lo" := e1 _ (.head _)
        have e4 : z ≠ Str.ofString "hi" := e1 _ (.tail _ (.head _))
        have e5 : z ≠ Str.ofString "mid" := fun e => absurd e2 (by rw [e]; decide)
        simp only [kstB, e3, e4, e5, e2, if_false, Bool.false_eq_true]
      case zp =>
        refine ⟨p1, q1 (by assumption), ?_, p4, fun _ => by assumption⟩
        have := q2 (by assumption)
        dsimp only; omega
      case zm => have := q2 (by assumption); dsimp only; omega
    · refine Hold.mk ?_
      with_unfolding_all refine' ksw_end ((lo + hi).fdiv 2 + 1, _, hi, _) ?zF ?zN ?zn trivial ?zk ?zr ?zp ?zm
      case zF => assumption
      case zN => assumption
      case zn => exact fun _ h => h
      case zk => kst_all
      case zr =>
        intro z e1 e2
        have e3 : z ≠ Str.ofString "lo" := e1 _ (.head _)
        have e4 : z ≠ Str.ofString "hi" := e1 _ (.tail _ (.head _))
        have e5 : z ≠ Str.ofString "mid" := fun e => absurd e2 (by rw [e]; decide)
        simp only [kstB, e3, e4, e5, e2, if_false, Bool.false_eq_true]
      case zp =>
        have := q1 (by assumption)
        refine ⟨?_, q2 (by assumption), p3, fun _ => ?_, p5⟩
        · dsimp only; omega
        · have e : (lo + hi).fdiv 2 + 1 - 1 = (lo + hi).fdiv 2 := by omega
          dsimp only; rw [e]; omega
      case zm => have := q1 (by assumption); have := q2 (by assumption); dsimp only; omega
    · refine hret _ _ _ _ (by assumption) (by assumption) ⟨rfl, _, _, rfl, p1, ?_, p4, ?_⟩
      · omega
      · intro h1; exact (by omega : lo = hi) ▸ p5 (by omega)
theorem bis2 (w : World) (news : List (Addr × Obj)) (la : Addr) (vs : List Value) (ar : List (Int × Int)) (nn : Nat) (x lo hi : Int) (tx t1 t2 : Tok) (hla : (la, listOf vs.toArray nn) ∈ news) (hI : ArAre news vs ar) (hlen : ar.length < 100) (h1 : 0 ≤ lo) (h2 : lo ≤ hi) (h3 : hi ≤ ar.length) :
    Does w 3 (.ref 47) [.ref la, .int x tx, .int lo t1, .int hi t2] [(Str.ofString "key", .ref 233)] news fun r news' => news = news' ∧ ∃ k t, r = .int k t ∧ Bis (ar.map (·.1)) x lo hi k := by
  unfold Does
  k_fill
  intro loose mean mg mb dp un gd cn cs a ccd cl outer A₀ base h₀ L m s Q E B F X N T hk hd hu hret
  k_dflt walk_at "M enter"
  k_steps
  refine Hold.mk ?_
  rename Fr _ _ _ _ => lF
  rename News _ _ _ _ => lN
  with_unfolding_all refine' ksw_while (σ := Int × Nat × Int × Nat) (fun _ => news) (fun c => [(Str.ofString "lo", Value.int c.1 c.2.1), (Str.ofString "hi", Value.int c.2.2.1 c.2.2.2)]) (fun _ => True) [Str.ofString "mid"] (BisP (ar.map (·.1)) x lo hi) (fun c => (c.2.2.1 - c.1).toNat) (lo, _, hi, _) lF lN trivial ?wk ?wp ?wt
  case wk => kst_all
  case wp => exact ⟨Int.le_refl _, h2, Int.le_refl _, fun h => absurd h (Int.lt_irrefl _), fun h => absurd h (Int.lt_irrefl _)⟩
  case wt =>
    clear lF lN
    rintro ⟨lo', tlo, hi', thi⟩ u h tk _ ⟨p1, p2, p3, p4, p5⟩ F' N'
    dsimp only [kstB] at p1 p2 p3 p4 p5 F' ⊢
    have q1 := @mid_lo lo' hi'
    have q2 := @mid_hi lo' hi'
    k_steps
    · refine Hold.mk ?_
      with_unfolding_all refine' ksw_end (lo', _, (lo' + hi').fdiv 2, _) ?zF ?zN ?zn trivial ?zk ?zr ?zp ?zm
      case zF => assumption
      case zN => assumption
      case zn => exact fun _ h => h
      case zk => kst_all
      case zr =>
        intro z e1 e2
        have e3 : z ≠ Str.ofString "lo" := e1 _ (.head _)
        have e4 : z ≠ Str.ofString "hi" := e1 _ (.tail _ (.head _))
        have e5 : z ≠ Str.ofString "mid" := fun e => absurd e2 (by rw [e]; decide)
        simp only [kstB, e3, e4, e5, e2, if_false, Bool.false_eq_true]
      case zp =>
        refine ⟨p1, q1 (by assumption), ?_, p4, fun _ => by rw [m_fst]; assumption⟩
        have := q2 (by assumption)
        dsimp only; omega
      case zm => have := q2 (by assumption); dsimp only; omega
    · refine Hold.mk ?_
      with_unfolding_all refine' ksw_end ((lo' + hi').fdiv 2 + 1, _, hi', _) ?zF ?zN ?zn trivial ?zk ?zr ?zp ?zm
      case zF => assumption
      case zN => assumption
      case zn => exact fun _ h => h
      case zk => kst_all
      case zr =>
        intro z e1 e2
        have e3 : z ≠ Str.ofString "lo" := e1 _ (.head _)
        have e4 : z ≠ Str.ofString "hi" := e1 _ (.tail _ (.head _))
        have e5 : z ≠ Str.ofString "mid" := fun e => absurd e2 (by rw [e]; decide)
        simp only [kstB, e3, e4, e5, e2, if_false, Bool.false_eq_true]
      case zp =>
        have := q1 (by assumption)
        refine ⟨?_, q2 (by assumption), p3, fun _ => ?_, p5⟩
        · dsimp only; omega
        · have e : (lo' + hi').fdiv 2 + 1 - 1 = (lo' + hi').fdiv 2 := by omega
          dsimp only; rw [e, m_fst]; omega
      case zm => have := q1 (by assumption); have := q2 (by assumption); dsimp only; omega
    · refine hret _ _ _ _ (by assumption) (by assumption) ⟨rfl, _, _, rfl, p1, ?_, p4, ?_⟩
      · omega
      · intro h1; exact (by omega : lo' = hi') ▸ p5 (by omega)
theorem Does.use {w : World} {need : Nat} {f : Value} {vs : List Value} {kw : List (Str × Value)} {news : List (Addr × Obj)} {Ret : Value → List (Addr × Obj) → Prop} (D : Does w need f vs kw news Ret)
    {loose : List Str} {mean : ExcName → Option Value} {mg mb : Str → Option Value} {dp un : Nat} {gd : Option (List Code)} {cn : Str} {cs : Scope} {a : Addr} {ccd : Value} {cl : List (Str × Addr)} {outer : List Env} {A₀ : Around} {base h₀ : Heap} {L : Addr} {m : Str → Option Value} {s : Shared}
    {Q E : Value → Shared → Prop} (B : Below A₀ base outer h₀) (F : Fr h₀ L s.heap m) (X : (Mine.hd.heap_39 w.params).In h₀) (N : News h₀ L s.heap news) (T : Top Mine.hd.view_39 loose mean mg mb h₀) (hk : cs.kind = .function) (hd : dp + need < recursionLimit) (hu : un + 8 * need < cLine)
    (ret : ∀ r news' h' tk', Fr h₀ L h' m → News h₀ L h' news' → Ret r news' → Q r { s with heap := h', toks := tk' }) :
    wpAny (model PySem.Challenge.rw_sn0035_01.row.prog w) (ktrTop dp un gd cn cs L a ccd cl outer) (call f vs kw) Q E s := D _ _ _ _ _ _ _ _ _ _ _ _ _ _ _ _ _ _ _ _ _ B F X N T hk hd hu ret
local macro_rules | `(tactic| walk_at $s:str) => `(tactic| k_extra $s)
theorem letter (w : World) (news : List (Addr × Obj)) (la ls : Addr) (vs us : List Value) (ar : List (Int × Int)) (n1 n2 : Nat) (first last : Nat) (Tx : Int → Int) (p : Int) (t1 t2 : Tok)
    (hla : (la, listOf vs.toArray n1) ∈ news) (hls : (ls, listOf us.toArray n2) ∈ news) (hA : ArAre news vs ar) (hS : IntsAre us (((ar.take last).drop first).map (·.1))) (hlen : ar.length < 100) (V : Valid ar first last Tx) (h0 : 0 ≤ p) (h1 : p < Pl ar last) :
    Does w 5 (.ref 240) [.ref la, .ref ls, .int first t1, .int p t2] [] news fun r news' => news = news' ∧ ∃ t, r = .int (Tx p) t := by
  unfold Does
  k_fill
  intro loose mean mg mb dp un gd cn cs a ccd cl outer A₀ base h₀ L m s Q E B F X N T hk hd hu hret
  k_dflt walk_at "M enter"
  k_with_none
  (k_with "call ref" => ((with_reducible show wpAny _ _ (call (Value.ref 47) _ _) _ _ _); refine Hold.out ?_))
  (k_with "exec While Call cons nil" => (refine Hold.out ?_))
  k_steps
  refine Hold.mk ?_
  have hsl : (((ar.take last).drop first).map (·.1)).length = last - first := by
    have := V.lt
    simp only [List.length_map, List.length_drop, List.length_take]; omega
  refine' Does.use (bis1 w news ls us _ n2 p t2 hls hS (by rw [hsl]; have := V.lt; omega)) (by k_asm) (by k_asm) (by k_asm) (by k_asm) (by k_asm) (by first | exact rfl | assumption) (by ktr_room) (by ktr_units) ?_
  rintro _ _ h1' tk1' F1' N1' ⟨rfl, r, tr, rfl, hb⟩
  k_steps
  refine Hold.mk ?_
  rename Fr _ _ _ _ => lF
  rename News _ _ _ _ => lN
  have hs := At.start V h0 h1 hb
  with_unfolding_all refine' ksw_while (σ := Int × Nat × Int × Nat) (fun _ => news) (fun c => [(Str.ofString "place", Value.int c.1 c.2.1), (Str.ofString "at", Value.int c.2.2.1 c.2.2.2)]) (fun _ => True) [Str.ofString "low"] (fun c => At ar first last Tx p c.1 c.2.2.1) (fun c => c.1.toNat) (p, _, _, _) lF lN trivial ?wk ?wp ?wt
  case wk => kst_all
  case wp => exact hs
  case wt =>
    clear lF lN hs
    rintro ⟨place, tp, at_, ta⟩ u h tk _ hA' F' N'
    dsimp only [kstB] at hA' F' ⊢
    have q1 := hA'.lo
    have q2 := hA'.hi
    have q3 := V.lt
    have qlow := fun hc => At.low V hA' hc
    k_steps
    · refine Hold.mk ?_
      have hc : 256 ≤ (ar.getD at_.toNat (0, 0)).2 := by assumption
      have hq := qlow hc
      refine' Does.use (bis2 w news la vs ar n1 _ _ _ _ _ _ hla hA hlen (by omega) (by omega) (by omega)) (by k_asm) (by k_asm) (by k_asm) (by k_asm) (by k_asm) (by first | exact rfl | assumption) (by ktr_room) (by ktr_units) ?_
      rintro _ _ h2' tk2' F2' N2' ⟨rfl, r, tr, rfl, hb2⟩
      have hst := At.step V hA' hc hb2
      k_steps
      refine Hold.mk ?_
      with_unfolding_all refine' ksw_end (_, _, r - 1, _) ?yF ?yN ?yn trivial ?yk ?yr ?yp ?ym
      case yF => assumption
      case yN => assumption
      case yn => exact fun _ h => h
      case yk => kst_all
      case yr =>
        intro z e1 e2
        have e3 : z ≠ Str.ofString "place" := e1 _ (.head _)
        have e4 : z ≠ Str.ofString "at" := e1 _ (.tail _ (.head _))
        have e5 : z ≠ Str.ofString "low" := fun e => absurd e2 (by rw [e]; decide)
        simp only [kstB, e3, e4, e5, e2, if_false, Bool.false_eq_true]
      case yp => exact hst.1
      case ym => exact hst.2
    · exact hret _ _ _ _ (by assumption) (by assumption) ⟨rfl, _, by rw [At.done V hA' (by assumption)]⟩
local macro_rules | `(tactic| walk_at "M enter0") => `(tactic| (refine wpAny_call ?_; refine' code_def ?k1 ?k2 ?k3 ?k4 ?k5 ?kA ?kF ?kK ?k6 ?k7 ?k8 ?k9 ?kB ?_ ?c2 ?c3 ?c4 ?c5; (case kA => exact rfl); (case kF => exact rfl); (case kK => assumption); (case k1 => k_asm); (case k2 => k_asm); (case k3 => k_asm); (case k4 => k_asm); (case k5 => k_asm); (case k6 => k_is); (case k7 => k_is); (case k8 => ktr_room); (case k9 => (first | exact BindsTo.of_eq rfl | exact binds_K (by k_in) rfl (by k_is) rfl rfl rfl | (refine' kp_binds ?kx ?ke; (case kx => k_in); (case ke => exact fun _ => rfl)))); (case c5 => decide); (case kB => exact locs rfl); (case c2 => exact rfl); (case c3 => exact rfl); (case c4 => exact rfl); k_whole))
local macro_rules | `(tactic| k_all) => `(tactic| assumption)
theorem kst_self {m : Str → Option Value} {ps : List (Str × Value)} (h : ∀ p ∈ ps, m p.1 = some p.2) : kstB m ps = m := by
  funext y
  exact kstB_eq h fun _ => rfl
section
variable {prog : Program} {w : World} {A : Around} {E : Value → Shared → Prop} {s : Shared} {h₀ : Heap} {L D : Addr} {m : Str → Option Value} {news news' : List (Addr × Obj)}
theorem m_append {us : List Value} {n : Nat} {x : Value} {Q : Value → Shared → Prop} (F : Fr h₀ L s.heap m) (N : News h₀ L s.heap news) (U : Upd D (listOf us.toArray n) (listOf (us ++ [x]).toArray (n + 1)) news news')
    (h : ∀ h', Fr h₀ L h' m → News h₀ L h' news' → Q .none { s with heap := h' }) (hsz : us.length < 1000) : wpAny (model prog w) A (call (.builtin "list.append") [.ref D, x]) Q E s :=
  append_K (its := us.toArray) (n := n) (x := x) F N (by simpa only [List.push_toArray] using U) h (by rw [List.size_toArray, sizeLine_eq]; omega)
end
theorem allLt_mem {d : Addr} : ∀ {l : List (Addr × Obj)}, AllLt d l → ∀ p ∈ l, p.1 < d
  | [], _, _, h => nomatch h
  | q :: r, h, p, hp => by
    rcases List.mem_cons.mp hp with rfl | hp
    · exact h.1
    · exact allLt_mem h.2 p hp
def LaidJ (rest : List (Addr × Obj)) (la : Addr) (ar ar' : List (Int × Int)) (cs : List Int) (i : Nat) (m1 : Str → Option Value) (nx : List (Addr × Obj)) : Prop :=
  ∃ vs1 n1' add ar1 place tp tf, nx = (la, listOf (vs1 : List Value).toArray n1') :: (add ++ rest) ∧ ArAre (add ++ rest) vs1 ar1 ∧ (∀ p ∈ add, la < p.1 ∧ ∀ q ∈ rest, q.1 < p.1) ∧
    (∀ p ∈ [(Str.ofString "archive", Value.ref la), (Str.ofString "first", Value.int ar.length tf), (Str.ofString "place", Value.int place tp)], m1 p.1 = some p.2) ∧
    ar1.length = ar.length + i ∧ laidF ar.length (cs.drop i) ar1 place = some ar'
theorem laid (w : World) (rest : List (Addr × Obj)) (la lc : Addr) (vs us : List Value) (ar ar' : List (Int × Int)) (cs : List Int) (n1 n2 : Nat) (hne : ∀ p ∈ rest, p.1 ≠ la)
    (hlc : (lc, listOf us.toArray n2) ∈ rest) (hA : ArAre rest vs ar) (hI : IntsAre us cs) (hf : laidF ar.length cs ar 0 = some ar') (hlen : ar'.length < 100) :
    Does w 3 (.ref 226) [.ref la, .ref lc] [] ((la, listOf vs.toArray n1) :: rest) fun r news' => r = .none ∧ ∃ vs' n' add, news' = (la, listOf vs'.toArray n') :: (add ++ rest) ∧ ArAre (add ++ rest) vs' ar' ∧ ∀ p ∈ add, la < p.1 ∧ ∀ q ∈ rest, q.1 < p.1 := by
  unfold Does
  k_fill
  intro loose mean mg mb dp un gd cn cs' a ccd cl outer A₀ base h₀ L m s Q E B F X N T hk hd hu hret
  k_dflt walk_at "M enter0"
  intro g L1 hh1 FG FF NN BB XX TT
  dsimp only
  k_lift BB
  k_fold
  have hlen' := laidF_len hf
  have hvl := hA.len
  k_with_none
  (k_with "exec For Name Name cons nil" => (refine Hold.out ?_))
  (k_with "InvEndG" => (refine Hold.out ?_))
  (k_with "call builtin:list.append" => (refine Hold.out ?_))
  (k_with "pyIter ref" => (refine Hold.out ?_))
  k_steps
  refine Hold.mk ?_
  rename Fr _ _ _ _ => lF
  rename News _ _ _ _ => lN
  replace lN := fun p hp => lN p (.tail _ hp)
  with_unfolding_all refine' For_invVF lF ?f1 ?f2 ?f3
  case f1 => exact rfl
  case f2 => exact rfl
  k_steps
  refine Hold.mk ?_
  refine' kdl_iter (LaidJ rest la ar ar' cs) rfl (.tail _ hlc) lF lN ?l1 ?l2 ?l3
  case l1 =>
    refine' ⟨vs, n1, [], ar, 0, _, _, rfl, hA, fun p hp => (nomatch hp), ?l4, rfl, hf⟩
    case l4 => rw [← hvl]; kst_all
  case l2 =>
    clear lF lN
    rintro i v m1 nx h tk own hv hoff hlc' ⟨vs1, n1', add, ar1, place, tp, tf, rfl, hA1, hfr, hm, hl1, hf1⟩ F1 N1
    have hil : i < cs.length := by rw [← hI.length]; exact (List.getElem?_eq_some_iff.mp hv).1
    obtain ⟨c, hc⟩ : ∃ c, c = cs[i]'hil := ⟨_, rfl⟩
    obtain ⟨t, ht⟩ := hI.get i c (by rw [hc]; exact List.getElem?_eq_getElem hil)
    have hv' : v = .int c t := by rw [ht] at hv; exact (Option.some.inj hv).symm
    subst hv'
    have hdr : cs.drop i = c :: cs.drop (i + 1) := by rw [hc]; exact List.drop_eq_getElem_cons hil
    rw [hdr] at hf1
    have hl1' := hA1.len
    obtain ⟨X, hX⟩ : ∃ X, X = (add ++ rest) ++ own := ⟨_, rfl⟩
    have hneX : ∀ p ∈ X, p.1 ≠ la := by
      rw [hX]; intro p hp
      rcases List.mem_append.mp hp with hp | hp
      · rcases List.mem_append.mp hp with hp | hp
        · exact Nat.ne_of_gt (hfr p hp).1
        · exact hne p hp
      · exact hoff p hp la (.head _)
    have hAX : ArAre X vs1 ar1 := hA1.mono fun p hp => by rw [hX]; exact List.mem_append_left _ hp
    rw [← kst_self hm] at F1
    dsimp only [kstB] at F1
    rw [List.cons_append, ← hX] at N1
    k_steps
    refine Hold.mk ?_
    rename_i D h9 F9 N9 l9
    have hl2 : (ar1 ++ [(place, c)]).length = ar1.length + 1 := by simp
    have hl3 : ar.length + i + 1 ≤ ar'.length := by omega
    have hpc : 256 ≤ c → 0 ≤ (ar.length : Int) + c - 256 ∧ (ar.length : Int) + c - 256 + 1 < ((ar1 ++ [(place, c)]).length : Int) := by
      intro h256
      simp only [laidF, if_pos h256] at hf1
      split at hf1
      · assumption
      · cases hf1
    refine m_append F9 N9 (.tail (Nat.ne_of_gt l9.1) (.head hneX)) ?_ (by omega)
    clear F9 N9
    intro h8 F8 N8
    have hAY : ArAre ((D, tup2 place c tp t 0) :: (la, listOf (vs1 ++ [Value.ref D]).toArray (n1' + 1)) :: X) (vs1 ++ [Value.ref D]) (ar1 ++ [(place, c)]) := (hAX.mono fun p hp => .tail _ (.tail _ hp)).snoc (.head _)
    have hend : ∀ h' m' tk' place' tp', Fr g L1 h' m' → News g L1 h' ((D, tup2 place c tp t 0) :: (la, listOf (vs1 ++ [Value.ref D]).toArray (n1' + 1)) :: X) →
        (∀ p ∈ [(Str.ofString "archive", Value.ref la), (Str.ofString "first", Value.int ar.length tf), (Str.ofString "place", Value.int place' tp')], m' p.1 = some p.2) →
        laidF ar.length (cs.drop (i + 1)) (ar1 ++ [(place, c)]) place' = some ar' →
        InvEndG g L1 (fun m' nx => (lc, listOf us.toArray n2) ∈ nx ∧ LaidJ rest la ar ar' cs (i + 1) m' nx) own { s with heap := h, toks := tk } { s with heap := h', toks := tk' } := by
      intro h' m' tk' place' tp' F' N' hm' hf'
      refine InvEndG.intro F' N' (nx := (la, listOf (vs1 ++ [Value.ref D]).toArray (n1' + 1)) :: (((D, tup2 place c tp t 0) :: add) ++ rest))
        ⟨.tail _ (.tail _ (List.mem_append_right _ hlc)), vs1 ++ [Value.ref D], n1' + 1, (D, tup2 place c tp t 0) :: add, ar1 ++ [(place, c)], place', tp', tf, rfl, ?_, ?_, hm', by rw [hl2]; omega, hf'⟩ ?_ ?_ ?_
      · exact (hA1.mono fun p hp => .tail _ hp).snoc (.head _)
      · intro p hp
        rcases List.mem_cons.mp hp with rfl | hp
        · exact ⟨l9.1, fun q hq => allLt_mem l9.2 q (by rw [hX]; exact List.mem_append_left _ (List.mem_append_right _ hq))⟩
        · exact hfr p hp
      · intro p hp b hb
        have hpX : p ∈ X := by rw [hX]; exact List.mem_append_right _ hp
        have hb' : b = la ∨ b = D ∨ b ∈ (add ++ rest).map (·.1) := by
          rcases List.mem_cons.mp hb with h | hb
          · exact .inl h
          · rcases List.mem_cons.mp hb with h | hb
            · exact .inr (.inl h)
            · exact .inr (.inr hb)
        rcases hb' with rfl | rfl | hb'
        · exact hneX p hpX
        · exact Nat.ne_of_lt (allLt_mem l9.2 p hpX)
        · exact hoff p hp b (.tail _ hb')
      · intro p hp
        rcases List.mem_cons.mp hp with rfl | hp
        · exact .tail _ (.head _)
        · rcases List.mem_cons.mp hp with rfl | hp
          · exact .head _
          · exact .tail _ (.tail _ (by rw [hX]; exact List.mem_append_left _ hp))
      · intro p hp
        exact .tail _ (.tail _ (by rw [hX]; exact List.mem_append_right _ hp))
    k_steps
    · refine Hold.mk (hend _ _ _ _ _ (by assumption) (by assumption) (by kst_all) ?_)
      simp only [laidF, if_pos (show 256 ≤ c by assumption)] at hf1
      rw [if_pos (hpc (by assumption))] at hf1
      exact hf1
    · refine Hold.mk (hend _ _ _ _ _ (by assumption) (by assumption) (by kst_all) ?_)
      simp only [laidF, if_neg (show ¬ 256 ≤ c by assumption)] at hf1
      exact hf1
  case l3 =>
    clear lF lN
    rintro m1 nx h tk ⟨vs1, n1', add, ar1, place, tp, tf, rfl, hA1, hfr, hm, hl1, hf1⟩ F1 N1
    have he : ar1 = ar' := by
      rw [hI.length, List.drop_length] at hf1
      simpa [laidF] using hf1
    subst he
    k_steps
    exact hret _ _ _ _ (by assumption) (by assumption) ⟨rfl, vs1, n1', add, rfl, hA1, hfr⟩
section
variable {prog : Program} {w : World} {A : Around} {E : Value → Shared → Prop} {s : Shared} {K : Frag} {g : Heap} {L : Addr} {m : Str → Option Value}
theorem gm_search {p : Addr} {po : Obj} {pl : Sem Bool} {Q : Value × List Value → Shared → Prop} (F : Fr g L s.heap m) (X : K.In g) (hk : K.lookup p = some po) (hc : po.cls = .type "re.Pattern") (hd : po.dict = none) (h : Q (.builtin "re.Pattern.search", [.ref p]) s) :
    wpAny (model prog w) A (getMethod (.ref p) (Str.ofString "search") pl) Q E s :=
  getMethod_builtin (T := "re.Pattern") ⟨_, F.keep _ _ (X _ _ hk), hc⟩ plain_search slot_search type_search (fun a e => by cases e; exact ⟨_, F.keep _ _ (X _ _ hk), hd⟩) h
theorem do_search {p c : Addr} {po co : Obj} {fs cvs : Array Value} {x : Str} {t : Tok} {Q : Value → Shared → Prop} (F : Fr g L s.heap m) (X : K.In g) (hk : K.lookup p = some po) (hk2 : K.lookup c = some co) (hc : po.cls = .type "re.Pattern") (hpd : po.data = .fields fs)
    (h6 : fs.getD 6 .none = .int 0 0) (h2 : fs.getD 2 .none = .int 0 0) (h5 : fs.getD 5 .none = .ref c) (hcd : co.data = .seq cvs 0)
    (hrun : ((Sre.forSearch ((cvs.map Builtin.Re.reRawOf).map (·.toNat)) x.cps 0 (min (0 : Int).toNat x.cps.size) (min ((2 ^ 63 - 1 : Int)).toNat x.cps.size) false).runFor 4).outcome = some .failed)
    (h : Q .none s) : wpAny (model prog w) A (call (.builtin "re.Pattern.search") [.ref p, .str x t]) Q E s :=
  search_none (F.keep _ _ (X _ _ hk)) hc hpd h6 h2 h5 (F.keep _ _ (X _ _ hk2)) hcd hrun h
end
theorem convert (w : World) (news : List (Addr × Obj)) (tb : Addr) (x : Str) (t : Tok) (b : Bool) (hx : Clean x) :
    Does w 3 (.ref 100) [.ref tb, .str x t] [(Str.ofString "name", .bool b)] news fun r news' => news = news' ∧ r = .str x t := by
  unfold Does
  k_fill
  intro loose mean mg mb dp un gd cn cs a ccd cl outer A₀ base h₀ L m s Q E B F X N T hk hd hu hret
  k_dflt walk_at "M enter0"
  intro g L1 hh1 FG FF NN BB XX TT
  dsimp only
  k_lift BB
  k_fold
  k_with_none
  (k_with "getMethod ref" => (refine Hold.out ?_))
  (k_with "call builtin:re.Pattern.search" => (refine Hold.out ?_))
  k_steps
  · refine Hold.mk ?_
    rename Fr _ _ _ _ => lF
    refine' gm_search lF XX ?k1 ?k2 ?k3 ?k4
    case k1 => k_is
    case k2 => rfl
    case k3 => rfl
    k_steps
    refine Hold.mk ?_
    refine' do_search (c := 72) (by assumption) XX ?q1 ?q2 ?q3 ?q4 ?q5 ?q6 ?q7 ?q8 ?q9 ?q10
    case q1 => k_is
    case q2 => k_is
    case q3 => rfl
    case q4 => rfl
    case q5 => rfl
    case q6 => rfl
    case q7 => rfl
    case q8 => rfl
    case q9 => exact (congrArg (fun cd => ((Sre.forSearch cd x.cps 0 (min (0 : Int).toNat x.cps.size) (min ((2 ^ 63 - 1 : Int)).toNat x.cps.size) false).runFor 4).outcome) (by decide +kernel)).trans (runN hx)
    k_steps
    exact hret _ _ _ _ (by assumption) (by assumption) ⟨rfl, rfl⟩
  · refine Hold.mk ?_
    rename Fr _ _ _ _ => lF
    refine' gm_search lF XX ?j1 ?j2 ?j3 ?j4
    case j1 => k_is
    case j2 => rfl
    case j3 => rfl
    k_steps
    refine Hold.mk ?_
    refine' do_search (c := 77) (by assumption) XX ?w1 ?w2 ?w3 ?w4 ?w5 ?w6 ?w7 ?w8 ?w9 ?w10
    case w1 => k_is
    case w2 => k_is
    case w3 => rfl
    case w4 => rfl
    case w5 => rfl
    case w6 => rfl
    case w7 => rfl
    case w8 => rfl
    case w9 => exact (congrArg (fun cd => ((Sre.forSearch cd x.cps 0 (min (0 : Int).toNat x.cps.size) (min ((2 ^ 63 - 1 : Int)).toNat x.cps.size) false).runFor 4).outcome) (by decide +kernel)).trans (runV hx)
    k_steps
    exact hret _ _ _ _ (by assumption) (by assumption) ⟨rfl, rfl⟩
/-- the Headers' list: name and value of each entry -/
abbrev ent (i : Nat) (k : Nat × Nat) (t1 t2 : Nat) (n : Nat) : Obj := { cls := .type "tuple", data := .seq [Value.str (nmS i k) t1, Value.str (xS i) t2].toArray n }
structure TabAre (news : List (Addr × Obj)) (vs : List Value) (ks : List (Nat × Nat)) : Prop where
  len : vs.length = ks.length
  get : ∀ (i : Nat) (k : Nat × Nat), ks[i]? = some k → ∃ a t1 t2 n, vs[i]? = some (.ref a) ∧ (a, ent i k t1 t2 n) ∈ news
  low : ∀ k ∈ ks, Low k
theorem TabAre.mono {news news' : List (Addr × Obj)} {vs : List Value} {ks : List (Nat × Nat)} (h : TabAre news vs ks) (hs : ∀ p ∈ news, p ∈ news') : TabAre news' vs ks :=
  ⟨h.len, fun i k hk => let ⟨a, t1, t2, n, e, hm⟩ := h.get i k hk; ⟨a, t1, t2, n, e, hs _ hm⟩, h.low⟩
section
variable {prog : Program} {w : World} {A : Around} {E : Value → Shared → Prop} {s : Shared}
theorem m_lower {x y : Str} {t : Tok} {Q : Value → Shared → Prop} (hx : Txt.lower x = y) (hl : x.length ≤ 100) (h : Q (.str y s.toks) { s with toks := s.toks + 1 }) : wpAny (model prog w) A (call (.builtin "str.lower") [.str x t]) Q E s :=
  SCL.lower (by omega) fun _ => by rw [hx]; exact h
end
local macro_rules | `(tactic| walk_at "call builtin:str.lower") => `(tactic| (refine m_lower (by assumption) (by first | omega | (rw [len_nm]; decide)) ?_))
theorem hget (w : World) (news : List (Addr × Obj)) (tb dx hl : Addr) (vs : List Value) (ks : List (Nat × Nat)) (n1 n2 : Nat) (hs : Int) (tk0 : Nat) (x : Str) (t : Tok) (k : Nat × Nat)
    (htb : (tb, instObj 201 dx) ∈ news) (hdx : (dx, dictOf [⟨hs, .str (Str.ofString "_headers") tk0, .ref hl⟩] n2) ∈ news) (hhl : (hl, listOf vs.toArray n1) ∈ news) (hT : TabAre news vs ks) (hlen : ks.length < 100)
    (hk : Low k) (hx : Txt.lower x = lowS k) (hxl : x.length = 2) :
    Does w 5 (.ref 148) [.ref tb, .str x t] [] news fun r news' => news = news' ∧ (match ks.findIdx? (· == k) with | some j => ∃ t, r = .str (xS j) t | none => r = .none) := by
  unfold Does
  k_fill
  intro loose mean mg mb dp un gd cn cs a ccd cl outer A₀ base h₀ L m s Q E B F X N T hk' hd hu hret
  k_dflt walk_at "M enter0"
  intro g L1 hh1 FG FF NN BB XX TT
  dsimp only
  k_lift BB
  k_fold
  k_with_none
  (k_with "call ref" => (refine Hold.out ?_))
  (k_with "exec For Tuple Attribute cons nil" => (refine Hold.out ?_))
  (k_with "pyIter ref" => (refine Hold.out ?_))
  (k_with "InvEndG" => (refine Hold.out ?_))
  k_steps
  refine Hold.mk ?_
  refine' Does.use (convert w news tb _ _ true (clean_low hk)) (by k_asm) (by k_asm) (by k_asm) (by k_asm) (by k_asm) (by first | exact rfl | assumption) (by ktr_room) (by ktr_units) ?_
  rintro _ _ h2' tk2' F2' N2' ⟨rfl, rfl⟩
  k_steps
  refine Hold.mk ?_
  refine wpAny_For ?_
  k_steps
  refine Hold.mk ?_
  rename Fr _ _ _ _ => lF
  rename News _ _ _ _ => lN
  refine' kdt_iter (fun i m1 nx => nx = news ∧ (∀ j, j < i → ks[j]? ≠ some k) ∧ ∃ tn, ∀ p ∈ [(Str.ofString "name", Value.str (lowS k) tn), (Str.ofString "default", Value.none)], m1 p.1 = some p.2) rfl hhl lF lN ?l1 ?l2 ?l3 ?l4
  case l4 => passes_own
  case l1 => refine' ⟨rfl, fun j h => absurd h (Nat.not_lt_zero _), _, ?l5⟩; case l5 => kst_all
  case l2 =>
    clear lF lN
    rintro i v m1 nx h tk own hv hoff hl' ⟨rfl, hno, tn, hm⟩ F1 N1
    have hil : i < ks.length := by rw [← hT.len]; exact (List.getElem?_eq_some_iff.mp hv).1
    obtain ⟨kk, hkk⟩ : ∃ kk, kk = ks[i]'hil := ⟨_, rfl⟩
    have hki : ks[i]? = some kk := by rw [hkk]; exact List.getElem?_eq_getElem hil
    obtain ⟨a, ta, tb', na, hva, hent⟩ := hT.get i kk hki
    have hv' : v = .ref a := by rw [hva] at hv; exact (Option.some.inj hv).symm
    subst hv'
    have hlow := hT.low kk (List.mem_of_getElem? hki)
    have hlk := lower_nm hlow i
    obtain ⟨X, hX⟩ : ∃ X, X = nx ++ own := ⟨_, rfl⟩
    have hentX : (a, ent i kk ta tb' na) ∈ X := by rw [hX]; exact List.mem_append_left _ hent
    rw [← kst_self hm] at F1
    dsimp only [kstB] at F1
    rw [← hX] at N1
    k_steps
    · have e : kk = k := low_inj.mp (by simpa using (show (lowS kk == lowS k) = true by assumption))
      subst e
      have hfi : ks.findIdx? (· == kk) = some i := by
        rw [List.findIdx?_eq_some_iff_getElem]
        refine ⟨hil, by simp [hkk], fun j hj => ?_⟩
        have h1 := hno j hj
        rw [List.getElem?_eq_getElem (by omega)] at h1
        simpa using fun h2 => h1 (by rw [h2])
      rename News h₀ L _ X => hN
      refine hret _ nx _ _ (by assumption) (fun p hp => hN p (by rw [hX]; exact List.mem_append_left _ hp)) ⟨rfl, ?_⟩
      rw [hfi]
      exact ⟨_, rfl⟩
    · have e : kk ≠ k := fun e => by
        have h9 : (lowS kk == lowS k) = false := by assumption
        rw [e] at h9
        simp at h9
      refine Hold.mk (InvEndG.intro (nx := nx) (by assumption) (by assumption) ⟨hl', rfl, ?_, tn, by kst_all⟩ hoff (fun p hp => by rw [hX]; exact List.mem_append_left _ hp) (fun p hp => by rw [hX]; exact List.mem_append_right _ hp))
      intro j hj
      rcases Nat.lt_succ_iff_lt_or_eq.mp hj with h1 | h1
      · exact hno j h1
      · subst h1
        rw [hki]
        intro h2
        exact e (Option.some.inj h2)
  case l3 =>
    clear lF lN
    rintro m1 nx h tk ⟨rfl, hno, tn, hm⟩ F1 N1
    rw [← kst_self hm] at F1
    dsimp only [kstB] at F1
    k_steps
    have hfi : ks.findIdx? (· == k) = none := by
      rw [List.findIdx?_eq_none_iff]
      intro y hy
      obtain ⟨j, hj, e⟩ := List.mem_iff_getElem.mp hy
      have h1 := hno j (by rw [hT.len]; exact hj)
      rw [List.getElem?_eq_getElem hj, e] at h1
      simpa using fun h2 => h1 (by rw [h2])
    refine hret _ _ _ _ (by assumption) (by assumption) ⟨rfl, ?_⟩
    rw [hfi]
theorem TabAre.snoc {news : List (Addr × Obj)} {vs : List Value} {ks : List (Nat × Nat)} (h : TabAre news vs ks) {a : Addr} {k : Nat × Nat} {t1 t2 n : Nat} (hk : Low k) (hm : (a, ent ks.length k t1 t2 n) ∈ news) : TabAre news (vs ++ [Value.ref a]) (ks ++ [k]) := by
  refine ⟨by simp [h.len], fun i q hq => ?_, fun q hq => ?_⟩
  · rcases Nat.lt_trichotomy i ks.length with hi | hi | hi
    · rw [List.getElem?_append_left hi] at hq
      obtain ⟨a', t1', t2', n', e, hm'⟩ := h.get i q hq
      exact ⟨a', t1', t2', n', by rw [List.getElem?_append_left (by rw [h.len]; exact hi)]; exact e, hm'⟩
    · subst hi
      simp at hq
      subst hq
      exact ⟨a, t1, t2, n, by rw [← h.len]; simp, hm⟩
    · rw [List.getElem?_eq_none (by simp; omega)] at hq; cases hq
  · rcases List.mem_append.mp hq with hq | hq
    · exact h.low q hq
    · rw [List.mem_singleton.mp hq]; exact hk
theorem hset (w : World) (rest : List (Addr × Obj)) (tb dx hl : Addr) (vs : List Value) (ks : List (Nat × Nat)) (n1 n2 : Nat) (hs : Int) (tk0 : Nat) (t t2 : Tok) (k : Nat × Nat)
    (htb : (tb, instObj 201 dx) ∈ rest) (hdx : (dx, dictOf [⟨hs, .str (Str.ofString "_headers") tk0, .ref hl⟩] n2) ∈ rest) (hne : ∀ p ∈ rest, p.1 ≠ hl) (hT : TabAre rest vs ks) (hlen : ks.length < 90) (hk : Low k) :
    Does w 8 (.ref 191) [.ref tb, .str (nmS ks.length k) t, .str (xS ks.length) t2] [] ((hl, listOf vs.toArray n1) :: rest) fun r news' =>
      match ks.findIdx? (· == k) with
      | some j => news' = (hl, listOf vs.toArray n1) :: rest ∧ ∃ t, r = .str (xS j) t
      | none => r = .str (xS ks.length) t2 ∧ ∃ D t1, news' = (hl, listOf (vs ++ [Value.ref D]).toArray (n1 + 1)) :: (D, ent ks.length k t1 t2 0) :: rest ∧ (∀ q ∈ rest, q.1 < D) ∧ hl < D := by
  unfold Does
  k_fill
  intro loose mean mg mb dp un gd cn cs a ccd cl outer A₀ base h₀ L m s Q E B F X N T hk' hd hu hret
  have hvl := hT.len
  k_dflt walk_at "M enter0"
  intro g L1 hh1 FG FF NN BB XX TT
  dsimp only
  k_lift BB
  k_fold
  k_with_none
  (k_with "call ref" => (refine Hold.out ?_))
  (k_with "call builtin:list.append" => (refine Hold.out ?_))
  have htb' : (tb, instObj 201 dx) ∈ (hl, listOf vs.toArray n1) :: rest := .tail _ htb
  have hdx' : (dx, dictOf [⟨hs, .str (Str.ofString "_headers") tk0, .ref hl⟩] n2) ∈ (hl, listOf vs.toArray n1) :: rest := .tail _ hdx
  k_steps
  refine Hold.mk ?_
  refine' Does.use (hget w ((hl, listOf vs.toArray n1) :: rest) tb dx hl vs ks n1 n2 hs tk0 _ _ k htb' hdx' (.head _) (hT.mono fun p hp => .tail _ hp) (by omega) hk (lower_nm hk _) (len_nm _ _)) (by k_asm) (by k_asm) (by k_asm) (by k_asm) (by k_asm) (by first | exact rfl | assumption) (by ktr_room) (by ktr_units) ?_
  rintro r _ h2' tk2' F2' N2' ⟨rfl, hr⟩
  cases hfi : ks.findIdx? (· == k) with
  | some j =>
    rw [hfi] at hr hret
    obtain ⟨tr, rfl⟩ := hr
    k_steps
    exact hret _ _ _ _ (by assumption) (by assumption) ⟨rfl, _, rfl⟩
  | none =>
    rw [hfi] at hr hret
    subst hr
    k_steps
    refine Hold.mk ?_
    refine' Does.use (convert w ((hl, listOf vs.toArray n1) :: rest) tb _ _ true (clean_nm hk _)) (by k_asm) (by k_asm) (by k_asm) (by k_asm) (by k_asm) (by first | exact rfl | assumption) (by ktr_room) (by ktr_units) ?_
    rintro _ _ h3' tk3' F3' N3' ⟨rfl, rfl⟩
    k_steps
    refine Hold.mk ?_
    refine' Does.use (convert w ((hl, listOf vs.toArray n1) :: rest) tb _ _ false (clean_x _)) (by k_asm) (by k_asm) (by k_asm) (by k_asm) (by k_asm) (by first | exact rfl | assumption) (by ktr_room) (by ktr_units) ?_
    rintro _ _ h4' tk4' F4' N4' ⟨rfl, rfl⟩
    k_steps
    refine Hold.mk ?_
    rename_i D h9 F9 N9 l9
    refine m_append F9 N9 (.tail (Nat.ne_of_gt l9.1) (.head hne)) ?_ (by omega)
    intro h8 F8 N8
    k_steps
    refine hret _ ((hl, listOf (vs ++ [Value.ref D]).toArray (n1 + 1)) :: (D, ent ks.length k t t2 0) :: rest) _ _ (by assumption) ?_ ⟨rfl, D, _, rfl, fun q hq => allLt_mem l9.2 q hq, l9.1⟩
    rename News h₀ L _ _ => lN
    intro p hp
    refine lN p ?_
    rcases List.mem_cons.mp hp with rfl | hp
    · exact .tail _ (.head _)
    · rcases List.mem_cons.mp hp with rfl | hp
      · exact .head _
      · exact .tail _ (.tail _ hp)
def sgn (c : Int) : Nat := if c < 256 then (if c = 255 then 97 else if c = 1 then 98 else 99) else (100 + c - 256).toNat
theorem sign (w : World) (news : List (Addr × Obj)) (c : Int) (t : Tok) (hc : c < 279) :
    Does w 2 (.ref 212) [.int c t] [] news fun r news' => news = news' ∧ ∃ t, r = .str ⟨#[sgn c]⟩ t := by
  unfold Does
  k_fill
  intro loose mean mg mb dp un gd cn cs a ccd cl outer A₀ base h₀ L m s Q E B F X N T hk' hd hu hret
  k_dflt walk_at "M enter0"
  intro g L1 hh1 FG FF NN BB XX TT
  dsimp only
  k_lift BB
  k_fold
  k_with_none
  k_steps
  · exact hret _ _ _ _ (by assumption) (by assumption) ⟨rfl, _, by rw [show sgn c = 97 by simp [sgn, *]]; rfl⟩
  · exact hret _ _ _ _ (by assumption) (by assumption) ⟨rfl, _, by rw [show sgn c = 98 by simp [sgn, *]]; rfl⟩
  · exact hret _ _ _ _ (by assumption) (by assumption) ⟨rfl, _, by rw [show sgn c = 99 by simp [sgn, *]]; rfl⟩
  · exact hret _ _ _ _ (by assumption) (by assumption) ⟨rfl, _, by rw [show sgn c = (100 + c - 256).toNat by simp [sgn, *]]⟩
theorem sgn_low {c : Int} (h : c < 279) : 97 ≤ sgn c ∧ sgn c ≤ 122 := by
  unfold sgn
  split
  · split
    · decide
    · split <;> decide
  · omega
def packF : List Int → List (Nat × Nat) → List Int → Int → List Int
  | [], _, codes, code => codes ++ [code, 0]
  | l :: ls, keys, codes, code =>
    if code = 0 then packF ls keys codes l
    else match keys.findIdx? (· == (sgn code, sgn l)) with
      | some j => packF ls keys codes (256 + j)
      | none => packF ls (keys ++ [(sgn code, sgn l)]) (codes ++ [code]) l
theorem Does.cast {w : World} {need : Nat} {f : Value} {vs vs' : List Value} {kw : List (Str × Value)} {news : List (Addr × Obj)} {Ret : Value → List (Addr × Obj) → Prop} (h : Does w need f vs kw news Ret) (e : vs' = vs) : Does w need f vs' kw news Ret := by
  rw [e]; exact h
theorem mul_x (n : Nat) : Txt.mul (Str.ofString "x") (n : Int) = xS n := by
  have h := mul_one_list 120 (n : Int)
  show Txt.mul ⟨#[120]⟩ (n : Int) = ⟨Array.replicate n 120⟩
  cases hx : Txt.mul ⟨#[120]⟩ (n : Int) with
  | mk c =>
    rw [hx] at h
    have h' : c.toList = List.replicate n 120 := by simpa using h
    rw [← Array.toArray_toList (xs := c), h', List.toArray_replicate]
section
variable {prog : Program} {w : World} {A : Around} {E : Value → Shared → Prop} {s : Shared}
theorem m_xlen {j : Nat} {t : Tok} {Q : Value → Shared → Prop} (hj : j < 1000) (h : ∀ t tk, Q (.int (j : Int) t) { s with toks := tk }) : wpAny (model prog w) A (call (.builtin "len") [.str (xS j) t]) Q E s :=
  SBL.len (by rw [len_x]; omega) (by rw [len_x]; exact h _ _)
theorem m_upper {x y : Str} {t : Tok} {Q : Value → Shared → Prop} (hx : Txt.upper x = y) (hl : x.length ≤ 100) (h : Q (.str y s.toks) { s with toks := s.toks + 1 }) : wpAny (model prog w) A (call (.builtin "str.upper") [.str x t]) Q E s :=
  SCL.upper (by omega) fun _ => by rw [hx]; exact h
end
section
variable {prog : Program} {w : World} {A : Around} {E : Value → Shared → Prop} {s : Shared} {h₀ : Heap} {L a b : Addr} {m : Str → Option Value} {news : List (Addr × Obj)}
theorem m_cat {us ws : List Value} {ns ms : List Int} {n1 n2 : Nat} {Q : Value → Shared → Prop} (F : Fr h₀ L s.heap m) (N : News h₀ L s.heap news) (ha : (a, listOf us.toArray n1) ∈ news) (hb : (b, listOf ws.toArray n2) ∈ news) (hi : IntsAre us ns) (hj : IntsAre ws ms)
    (h : ∀ D xs h', Fr h₀ L h' m → News h₀ L h' ((D, listOf (List.toArray xs) 0) :: news) → (∀ p ∈ news, p.1 < D) → IntsAre xs (ns ++ ms) → Q (.ref D) { s with heap := h' })
    (hz : ns.length + ms.length ≤ 1000) : wpAny (model prog w) A (binaryOp .Add (.ref a) (.ref b)) Q E s :=
  kmk_add_ints F N ⟨_, (N _ ha).1, rfl, n1, rfl⟩ ⟨_, (N _ hb).1, rfl, n2, rfl⟩ hi hj h (by rw [sizeLine_eq]; omega)
end
def PackJ (news : List (Addr × Obj)) (text : List Int) (lt hl lc tb dx : Addr) (i : Nat) (m1 : Str → Option Value) (nx : List (Addr × Obj)) : Prop :=
  ∃ hs tk0 n0 vs ks n1 cv cs n2 code tc R, nx = (hl, listOf (vs : List Value).toArray n1) :: (lc, listOf (cv : List Value).toArray n2) :: R ∧ (∀ p ∈ R, p.1 ≠ hl) ∧ (∀ p ∈ R, p.1 ≠ lc) ∧ TabAre R vs ks ∧ IntsAre cv cs ∧ (∀ p ∈ news, p ∈ R) ∧
    (tb, instObj 201 dx) ∈ R ∧ (dx, dictOf [⟨hs, .str (Str.ofString "_headers") tk0, .ref hl⟩] n0) ∈ R ∧ (∀ p ∈ [(Str.ofString "text", Value.ref lt), (Str.ofString "table", Value.ref tb), (Str.ofString "codes", Value.ref lc), (Str.ofString "code", Value.int code tc)], m1 p.1 = some p.2) ∧
    ks.length ≤ i ∧ cs.length ≤ i ∧ code < 256 + (i : Int) ∧ packF (text.drop i) ks cs code = packF text [] [] 0
theorem packed (w : World) (news : List (Addr × Obj)) (lt : Addr) (us : List Value) (text : List Int) (n : Nat)
    (hlt : (lt, listOf us.toArray n) ∈ news) (hI : IntsAre us text) (hlen : text.length ≤ 20) (hlo : ∀ c ∈ text, c < 256) :
    Does w 12 (.ref 219) [.ref lt] [] news fun r news' => ∃ D vs n', r = .ref D ∧ news' = (D, listOf vs.toArray n') :: news ∧ IntsAre vs (packF text [] [] 0) ∧ ∀ q ∈ news, q.1 < D := by
  unfold Does
  k_fill
  intro loose mean mg mb dp un gd cn cs a ccd cl outer A₀ base h₀ L m s Q E B F X N T hk' hd hu hret
  k_dflt walk_at "M enter0"
  intro g L1 hh1 FG FF NN BB XX TT
  dsimp only
  k_lift BB
  k_fold
  k_with_none
  (k_with "exec For Name Name cons nil" => (refine Hold.out ?_))
  (k_with "exec For Tuple Name cons nil" => (refine Hold.out ?_))
  (k_with "pyIter ref" => (refine Hold.out ?_))
  (k_with "exec For Name Name cons nil" => (refine Hold.out ?_))
  (k_with "exec For Tuple Name cons nil" => (refine Hold.out ?_))
  (k_with "pyIter ref" => (refine Hold.out ?_))
  (k_with "InvEndG" => (refine Hold.out ?_))
  (k_with "call builtin:list.append" => (refine Hold.out ?_))
  k_steps
  refine Hold.mk ?_
  refine wpAny_For ?_
  k_steps
  refine Hold.mk ?_
  rename Fr _ _ _ _ => lF
  rename_i hl _ lh tb dx _ _ _ l9 lx _ _ _ _ _ _ _ _ _ _ _ _
  rename News _ _ _ _ => lN
  refine' kdt_iter (vs := []) (fun i m1 nx => nx = _ ∧ m1 = _) rfl (.tail _ (.tail _ (.head _))) lF lN ⟨rfl, rfl⟩ ?l2 ?l3 ?l4
  case l4 => passes_own
  case l2 => intro i v m1 nx h tk own hv; cases hv
  rintro m1 nx h tk ⟨rfl, rfl⟩ F1 N1
  k_steps
  refine Hold.mk ?_
  rename_i lc _ lk D _ lk2 _ _ _ _ F3 N3
  clear lF lN F1 N1
  have N4 : News g L1 _ ((hl, _) :: (lc, _) :: (tb, _) :: (dx, _) :: news) := fun p hp => N3 p (by
    rcases List.mem_cons.mp hp with rfl | hp
    · exact .tail _ (.tail _ (.tail _ (.tail _ (.head _))))
    · rcases List.mem_cons.mp hp with rfl | hp
      · exact .tail _ (.head _)
      · rcases List.mem_cons.mp hp with rfl | hp
        · exact .tail _ (.tail _ (.head _))
        · rcases List.mem_cons.mp hp with rfl | hp
          · exact .tail _ (.tail _ (.tail _ (.head _)))
          · exact .tail _ (.tail _ (.tail _ (.tail _ (.tail _ hp)))))
  have hne1 : hl ≠ lc := Nat.ne_of_lt lk.2.2.1
  have hR1 : ∀ o : Obj, ∀ p ∈ (tb, instObj 201 dx) :: (dx, o) :: news, p.1 ≠ hl := by
    intro o p hp
    rcases List.mem_cons.mp hp with rfl | hp
    · exact Nat.ne_of_gt (Nat.lt_trans l9.1 lx)
    · rcases List.mem_cons.mp hp with rfl | hp
      · exact Nat.ne_of_gt l9.1
      · exact Nat.ne_of_lt (lh p hp)
  have hR2 : ∀ o : Obj, ∀ p ∈ (tb, instObj 201 dx) :: (dx, o) :: news, p.1 ≠ lc := by
    intro o p hp
    rcases List.mem_cons.mp hp with rfl | hp
    · exact Nat.ne_of_lt lk.1
    · rcases List.mem_cons.mp hp with rfl | hp
      · exact Nat.ne_of_lt lk.2.1
      · exact Nat.ne_of_lt (allLt_mem lk.2.2.2 p hp)
  with_unfolding_all refine' For_invVF F3 ?f1 ?f2 ?f3
  case f1 => exact rfl
  case f2 => exact rfl
  k_steps
  refine Hold.mk ?_
  refine' kdl_iter (PackJ news text lt hl lc tb dx) rfl (.tail _ (.tail _ (.tail _ (.tail _ hlt)))) F3 N4 ?l1 ?l5 ?l6
  case l1 =>
    refine' ⟨_, _, _, [], [], 0, [], [], 0, 0, _, _, rfl, hR1 _, hR2 _, ⟨rfl, fun i k hk => (nomatch hk), fun k hk => (nomatch hk)⟩, .nil, fun p hp => .tail _ (.tail _ hp), .head _, .tail _ (.head _), ?l7, Nat.le_refl _, Nat.le_refl _, by decide, rfl⟩
    case l7 => kst_all
  case l5 =>
    clear F3 N3 N4 hR1 hR2 lk lk2 l9 lx lh
    rintro i v m1 nx h tk own hv hoff hlt' ⟨hs, tk0, n0, vs, ks, n1, cv, cs, n2, code, tc, R, rfl, hR1, hR2, hT, hIc, hsub, htb, hdx, hm, hkl, hcl, hcode, hpk⟩ F1 N1
    have hil : i < text.length := by rw [← hI.length]; exact (List.getElem?_eq_some_iff.mp hv).1
    obtain ⟨c, hc⟩ : ∃ c, c = text[i]'hil := ⟨_, rfl⟩
    obtain ⟨t, ht⟩ := hI.get i c (by rw [hc]; exact List.getElem?_eq_getElem hil)
    have hv' : v = .int c t := by rw [ht] at hv; exact (Option.some.inj hv).symm
    subst hv'
    have hdr : text.drop i = c :: text.drop (i + 1) := by rw [hc]; exact List.drop_eq_getElem_cons hil
    rw [hdr] at hpk
    have hc256 : c < 256 := hlo c (by rw [hc]; exact List.getElem_mem hil)
    obtain ⟨Y, hY⟩ : ∃ Y, Y = R ++ own := ⟨_, rfl⟩
    have hY1 : ∀ p ∈ Y, p.1 ≠ hl := by
      rw [hY]; intro p hp
      rcases List.mem_append.mp hp with hp | hp
      · exact hR1 p hp
      · exact hoff p hp hl (.head _)
    have hY2 : ∀ p ∈ Y, p.1 ≠ lc := by
      rw [hY]; intro p hp
      rcases List.mem_append.mp hp with hp | hp
      · exact hR2 p hp
      · exact hoff p hp lc (.tail _ (.head _))
    have hYR : ∀ p ∈ R, p ∈ Y := fun p hp => by rw [hY]; exact List.mem_append_left _ hp
    have htbY := hYR _ htb
    have hdxY := hYR _ hdx
    have htb1 : (tb, instObj 201 dx) ∈ (hl, listOf vs.toArray n1) :: (lc, listOf cv.toArray n2) :: Y := .tail _ (.tail _ htbY)
    have hdx1 : _ ∈ (hl, listOf vs.toArray n1) :: (lc, listOf cv.toArray n2) :: Y := List.Mem.tail _ (List.Mem.tail _ hdxY)
    have hhl1 : (hl, listOf vs.toArray n1) ∈ (hl, listOf vs.toArray n1) :: (lc, listOf cv.toArray n2) :: Y := .head _
    rw [← kst_self hm] at F1
    dsimp only [kstB] at F1
    rw [List.cons_append, List.cons_append, ← hY] at N1
    have hvl := hT.len
    have hend : ∀ h' m' tk' vs' ks' n1' cv' cs' n2' code' tc' (ext : List (Addr × Obj)), Fr g L1 h' m' → News g L1 h' ((hl, listOf (vs' : List Value).toArray n1') :: (lc, listOf (cv' : List Value).toArray n2') :: (ext ++ Y)) →
        (∀ p ∈ ext, p.1 ≠ hl ∧ p.1 ≠ lc ∧ ∀ q ∈ Y, q.1 < p.1) → TabAre (ext ++ R) vs' ks' → IntsAre cv' cs' →
        (∀ p ∈ [(Str.ofString "text", Value.ref lt), (Str.ofString "table", Value.ref tb), (Str.ofString "codes", Value.ref lc), (Str.ofString "code", Value.int code' tc')], m' p.1 = some p.2) →
        ks'.length ≤ i + 1 → cs'.length ≤ i + 1 → code' < 256 + ((i + 1 : Nat) : Int) → packF (text.drop (i + 1)) ks' cs' code' = packF text [] [] 0 →
        InvEndG g L1 (fun m' nx => (lt, listOf us.toArray n) ∈ nx ∧ PackJ news text lt hl lc tb dx (i + 1) m' nx) own { s with heap := h, toks := tk } { s with heap := h', toks := tk' } := by
      intro h' m' tk' vs' ks' n1' cv' cs' n2' code' tc' ext F' N' hx hT' hI' hm' hk1 hk2 hk3 hp'
      refine InvEndG.intro F' N' (nx := (hl, listOf vs'.toArray n1') :: (lc, listOf cv'.toArray n2') :: (ext ++ R)) ⟨.tail _ (.tail _ (List.mem_append_right _ (hsub _ hlt))), hs, tk0, n0, vs', ks', n1', cv', cs', n2', code', tc', ext ++ R, rfl, ?_, ?_, hT', hI', fun p hp => List.mem_append_right _ (hsub p hp), List.mem_append_right _ htb, List.mem_append_right _ hdx, hm', hk1, hk2, hk3, hp'⟩ ?_ ?_ ?_
      · intro p hp
        rcases List.mem_append.mp hp with hp | hp
        · exact (hx p hp).1
        · exact hR1 p hp
      · intro p hp
        rcases List.mem_append.mp hp with hp | hp
        · exact (hx p hp).2.1
        · exact hR2 p hp
      · intro p hp b hb
        have hpY : p ∈ Y := by rw [hY]; exact List.mem_append_right _ hp
        rcases List.mem_cons.mp hb with rfl | hb
        · exact hY1 p hpY
        · rcases List.mem_cons.mp hb with rfl | hb
          · exact hY2 p hpY
          · rw [List.map_append] at hb
            rcases List.mem_append.mp hb with hb | hb
            · obtain ⟨q, hq, rfl⟩ := List.mem_map.mp hb
              exact Nat.ne_of_lt ((hx q hq).2.2 p hpY)
            · exact hoff p hp b (.tail _ (.tail _ hb))
      · intro p hp
        rcases List.mem_cons.mp hp with rfl | hp
        · exact .head _
        · rcases List.mem_cons.mp hp with rfl | hp
          · exact .tail _ (.head _)
          · refine .tail _ (.tail _ ?_)
            rcases List.mem_append.mp hp with hp | hp
            · exact List.mem_append_left _ hp
            · exact List.mem_append_right _ (hYR p hp)
      · intro p hp
        exact .tail _ (.tail _ (List.mem_append_right _ (by rw [hY]; exact List.mem_append_right _ hp)))
    have hTY : TabAre ((lc, listOf cv.toArray n2) :: Y) vs ks := hT.mono fun p hp => .tail _ (hYR p hp)
    (k_with "call ref" => (first | ((with_reducible show wpAny _ _ (call (Value.ref 212) _ _) _ _ _); refine Hold.out ?_) | ((with_reducible show wpAny _ _ (call (Value.ref 191) _ _) _ _ _); refine Hold.out ?_)))
    k_steps
    · refine Hold.mk ?_
      have h0 : code = 0 := by assumption
      rw [packF, if_pos h0] at hpk
      exact hend _ _ _ vs ks n1 cv cs n2 c t [] (by assumption) (by assumption) (fun p hp => nomatch hp) hT hIc (by kst_all) (by omega) (by omega) (by omega) hpk
    · refine Hold.mk ?_
      have h0 : code ≠ 0 := by assumption
      rw [packF, if_neg h0] at hpk
      have hlow : Low (sgn code, sgn c) := ⟨(sgn_low (by omega)).1, (sgn_low (by omega)).2, (sgn_low (by omega)).1, (sgn_low (by omega)).2⟩
      have e2 : Txt.mul (Str.ofString "x") (vs.length : Int) = xS ks.length := by rw [hvl]; exact mul_x _
      have hneY : ∀ p ∈ (lc, listOf cv.toArray n2) :: Y, p.1 ≠ hl := by
        intro p hp
        rcases List.mem_cons.mp hp with rfl | hp
        · exact hne1.symm
        · exact hY1 p hp
      refine' Does.use (sign w _ code _ (by omega)) (by k_asm) (by k_asm) (by k_asm) (by k_asm) (by k_asm) (by first | exact rfl | assumption) (by ktr_room) (by ktr_units) ?_
      rintro _ _ h3' tk3' F3' N3' ⟨rfl, ts1, rfl⟩
      k_steps
      refine Hold.mk ?_
      refine' Does.use (sign w _ c _ (by omega)) (by k_asm) (by k_asm) (by k_asm) (by k_asm) (by k_asm) (by first | exact rfl | assumption) (by ktr_room) (by ktr_units) ?_
      rintro _ _ h4' tk4' F4' N4' ⟨rfl, ts2, rfl⟩
      k_steps
      refine m_upper (upper_low (k := (sgn code, sgn c)) hlow) (by show (2 : Nat) ≤ 100; decide) ?_
      k_steps
      refine Hold.mk ?_
      have e1 : upS (sgn code, sgn c) = nmS ks.length (sgn code, sgn c) := by
        have : ((vs.length : Nat) : Int).fmod 2 = 1 := by assumption
        rw [hvl, Int.fmod_eq_emod_of_nonneg _ (by decide)] at this
        rw [nmS, if_pos (by omega)]
      rotate_left
      refine Hold.mk ?_
      have e1 : (⟨#[sgn code]⟩ ++ ⟨#[sgn c]⟩ : Str) = nmS ks.length (sgn code, sgn c) := by
        have : ((vs.length : Nat) : Int).fmod 2 ≠ 1 := by assumption
        rw [hvl, Int.fmod_eq_emod_of_nonneg _ (by decide)] at this
        rw [nmS, if_neg (by omega)]
        rfl
      all_goals
        rename News g L1 _ _ => lN
        have lN2 : News g L1 _ ((hl, listOf vs.toArray n1) :: (lc, listOf cv.toArray n2) :: Y) := fun p hp => lN p (.tail _ hp)
        clear lN
        refine' Does.use (Does.cast (hset w ((lc, listOf cv.toArray n2) :: Y) tb dx hl vs ks n1 n0 hs tk0 _ _ (sgn code, sgn c) (.tail _ htbY) (.tail _ hdxY) hneY hTY (by omega) hlow) (by rw [e1, e2])) (by k_asm) (by k_asm) (by k_asm) (by k_asm) (by k_asm) (by first | exact rfl | assumption) (by ktr_room) (by ktr_units) ?_
        rintro r _ h5' tk5' F5' N5' hr
        cases hfi : ks.findIdx? (· == (sgn code, sgn c)) with
        | some j =>
          rw [hfi] at hr hpk
          obtain ⟨rfl, tr, rfl⟩ := hr
          have hjl : j < ks.length := by
            obtain ⟨h, _⟩ := List.findIdx?_eq_some_iff_getElem.mp hfi
            exact h
          (k_with "call builtin:len" => (refine Hold.out ?_))
          k_steps
          · refine Hold.mk ?_
            refine m_xlen (by omega) ?_
            intro t7 tk7
            k_steps
            refine Hold.mk ?_
            exact hend _ _ _ vs ks n1 cv cs n2 (256 + (j : Int)) _ [] (by assumption) (by assumption) (fun p hp => nomatch hp) hT hIc (by kst_all) (by omega) (by omega) (by omega) hpk
          · have hx : (xS j != Txt.mul (Str.ofString "x") (vs.length : Int)) = false := by assumption
            rw [e2, bne_eq_false_iff_eq, x_inj] at hx
            omega
        | none =>
          rw [hfi] at hr hpk
          obtain ⟨rfl, D2, t9, rfl, hD1, hD2⟩ := hr
          (k_with "call builtin:len" => (refine Hold.out ?_))
          k_steps
          · have hx : (xS ks.length != Txt.mul (Str.ofString "x") (vs.length : Int)) = true := by assumption
            rw [e2] at hx
            simp at hx
          · refine Hold.mk ?_
            rename Fr g L1 _ _ => lF
            rename News g L1 _ _ => lN
            refine m_append lF lN (.tail hne1 (.tail (Nat.ne_of_gt (hD1 _ (.head _))) (.head hY2))) ?_ (by have := hIc.length; omega)
            clear lF lN
            intro h8 F8 N8
            k_steps
            refine Hold.mk ?_
            rename Fr g L1 _ _ => lF
            rename News g L1 _ _ => lN
            have N9 : News g L1 _ ((hl, _) :: (lc, listOf (cv ++ [Value.int code tc]).toArray (n2 + 1)) :: ([(D2, _)] ++ Y)) := fun p hp => lN p (by
              rcases List.mem_cons.mp hp with rfl | hp
              · exact .head _
              · rcases List.mem_cons.mp hp with rfl | hp
                · exact .tail _ (.tail _ (.head _))
                · rcases List.mem_append.mp hp with hp | hp
                  · rw [List.mem_singleton.mp hp]; exact .tail _ (.head _)
                  · exact .tail _ (.tail _ (.tail _ hp)))
            refine hend _ _ _ (vs ++ [Value.ref D2]) (ks ++ [(sgn code, sgn c)]) (n1 + 1) (cv ++ [Value.int code tc]) (cs ++ [code]) (n2 + 1) c t _ lF N9 ?_ ?_ (hIc.append (.cons _ _ .nil)) (by kst_all) ?_ ?_ ?_ hpk
            · intro p hp
              rw [List.mem_singleton.mp hp]
              exact ⟨Nat.ne_of_gt hD2, Nat.ne_of_gt (hD1 _ (.head _)), fun q hq => hD1 q (.tail _ hq)⟩
            · exact TabAre.snoc (hT.mono fun p hp => .tail _ hp) hlow (.head _)
            · rw [List.length_append]; exact Nat.succ_le_succ hkl
            · rw [List.length_append]; exact Nat.succ_le_succ hcl
            · clear hend; omega
  case l6 =>
    clear F3 N3 N4 hR1 hR2 lk lk2 l9 lx lh
    rintro m1 nx h tk ⟨hs, tk0, n0, vs, ks, n1, cv, cs, n2, code, tc, R, rfl, hR1, hR2, hT, hIc, hsub, htb, hdx, hm, hkl, hcl, hcode, hpk⟩ F1 N1
    rw [hI.length, List.drop_length, packF] at hpk
    rw [← kst_self hm] at F1
    dsimp only [kstB] at F1
    have hlc1 : (lc, listOf cv.toArray n2) ∈ (hl, listOf vs.toArray n1) :: (lc, listOf cv.toArray n2) :: R := .tail _ (.head _)
    k_steps
    rename Fr g _ _ _ => lF
    rename News g _ _ _ => lN
    refine m_cat lF lN (.tail _ (.tail _ (.head _))) (.head _) hIc (.cons _ _ (.cons _ _ .nil)) ?_ (by show cs.length + 2 ≤ 1000; have := hI.length; omega)
    intro D3 xs h9 F9 N9 hlt9 hI9
    clear lF lN
    k_steps
    rename News h₀ _ _ _ => lN
    refine hret _ ((D3, listOf xs.toArray 0) :: news) _ _ (by assumption) ?_ ⟨D3, xs, 0, rfl, rfl, by rw [← hpk]; exact hI9, fun q hq => hlt9 q (.tail _ (.tail _ (.tail _ (hsub q hq))))⟩
    intro p hp
    refine lN p ?_
    rcases List.mem_cons.mp hp with rfl | hp
    · exact .head _
    · exact .tail _ (.tail _ (.tail _ (.tail _ (hsub p hp))))
theorem kc_nine {cm : Str → Option Value} {n₁ n₂ n₃ n₄ n₅ n₆ n₇ n₈ n₉ : Str} {c₁ c₂ c₃ c₄ c₅ c₆ c₇ c₈ c₉ : Addr} {cells : List (Addr × Obj)} (x : CellsAre cm [(n₁, c₁), (n₂, c₂), (n₃, c₃), (n₄, c₄), (n₅, c₅), (n₆, c₆), (n₇, c₇), (n₈, c₈), (n₉, c₉)] cells) :
    ∃ o₁ o₂ o₃ o₄ o₅ o₆ o₇ o₈ o₉, cells = [(c₁, o₁), (c₂, o₂), (c₃, o₃), (c₄, o₄), (c₅, o₅), (c₆, o₆), (c₇, o₇), (c₈, o₈), (c₉, o₉)] ∧ o₁.data = .cell (cm n₁) ∧ o₂.data = .cell (cm n₂) ∧ o₃.data = .cell (cm n₃) ∧ o₄.data = .cell (cm n₄) ∧ o₅.data = .cell (cm n₅) ∧ o₆.data = .cell (cm n₆) ∧ o₇.data = .cell (cm n₇) ∧ o₈.data = .cell (cm n₈) ∧ o₉.data = .cell (cm n₉) := by
  cases x with | cons h r => obtain ⟨o₂, o₃, o₄, o₅, o₆, o₇, o₈, o₉, rfl, h₂, h₃, h₄, h₅, h₆, h₇, h₈, h₉⟩ := kc_eight r; exact ⟨_, o₂, o₃, o₄, o₅, o₆, o₇, o₈, o₉, rfl, h, h₂, h₃, h₄, h₅, h₆, h₇, h₈, h₉⟩
local macro_rules | `(tactic| cells_open $x:ident) => `(tactic| (obtain ⟨_, _, _, _, _, _, _, _, _, he, _, _, _, _, _, _, _, _, _⟩ := kc_nine $x; subst he))
def lawS : { x : Str × List Stmt × Scope // ∃ a d r tp tsc bd pos, PySem.Challenge.pw_sn0035_01.main.body.getLast? = some (.FunctionDef x.1 a x.2.1 d r tp x.2.2 tsc bd pos) } := ⟨(_, _, _), _, _, _, _, _, _, _, rfl⟩
abbrev lawCl (L : Addr) : List (Str × Addr) := [(Str.ofString "entered", L + 9), (Str.ofString "signs", L + 8), (Str.ofString "starts", L + 7), (Str.ofString "first", L + 6), (Str.ofString "archive", L + 5), (Str.ofString "two", L + 4), (Str.ofString "one", L + 3), (Str.ofString "text", L + 2), (Str.ofString "numbers", L + 1)]
abbrev lawEnv (L a : Addr) (ccd : Value) : Env := envX lawS.1.1 lawS.1.2.2 L a ccd (lawCl L)
/-- from such a state on, the law's statements end and give back True -/
def AtLaw (w : World) (stmts : List Stmt) (P : Heap → Addr → (Str → Option Value) → List (Addr × Obj) → Prop) : Prop :=
  ∀ (loose : List Str) (mean : ExcName → Option Value) (mg mb : Str → Option Value) (dp un : Nat) (gd : Option (List Code)) (L a : Addr) (ccd : Value) (outer : List Env) (A₀ : Around) (base h₀ : Heap) (m : Str → Option Value) (s : Shared)
    (Q : Flow → Shared → Prop) (E : Value → Shared → Prop) (news : List (Addr × Obj)),
    Below A₀ base outer h₀ → Fr h₀ L s.heap m → (Mine.hd.heap_39 w.params).In h₀ → News h₀ L s.heap news → Top Mine.hd.view_39 loose mean mg mb h₀ → dp + 20 < recursionLimit → un + 8 * 20 < cLine → P h₀ L m news → PassesOwn (model PySem.Challenge.rw_sn0035_01.row.prog w) (ktrTop dp un gd lawS.1.1 lawS.1.2.2 L a ccd (lawCl L) outer) (lawEnv L a ccd) E →
    (∀ h' m' tk', Fr h₀ L h' m' → Q (.ret (.bool true)) { s with heap := h', toks := tk' }) →
    wpAny (model PySem.Challenge.rw_sn0035_01.row.prog w) (ktrTop dp un gd lawS.1.1 lawS.1.2.2 L a ccd (lawCl L) outer) (execs stmts (lawEnv L a ccd)) Q E s
theorem AtLaw.use {w : World} {stmts : List Stmt} {P : Heap → Addr → (Str → Option Value) → List (Addr × Obj) → Prop} (D : AtLaw w stmts P)
    {loose : List Str} {mean : ExcName → Option Value} {mg mb : Str → Option Value} {dp un : Nat} {gd : Option (List Code)} {L a : Addr} {ccd : Value} {outer : List Env} {A₀ : Around} {base h₀ : Heap} {m : Str → Option Value} {s : Shared}
    {Q : Flow → Shared → Prop} {E : Value → Shared → Prop} {news : List (Addr × Obj)}
    (B : Below A₀ base outer h₀) (F : Fr h₀ L s.heap m) (X : (Mine.hd.heap_39 w.params).In h₀) (N : News h₀ L s.heap news) (T : Top Mine.hd.view_39 loose mean mg mb h₀) (hd : dp + 20 < recursionLimit) (hu : un + 8 * 20 < cLine) (hp : P h₀ L m news) (hE : PassesOwn (model PySem.Challenge.rw_sn0035_01.row.prog w) (ktrTop dp un gd lawS.1.1 lawS.1.2.2 L a ccd (lawCl L) outer) (lawEnv L a ccd) E)
    (ret : ∀ h' m' tk', Fr h₀ L h' m' → Q (.ret (.bool true)) { s with heap := h', toks := tk' }) :
    wpAny (model PySem.Challenge.rw_sn0035_01.row.prog w) (ktrTop dp un gd lawS.1.1 lawS.1.2.2 L a ccd (lawCl L) outer) (execs stmts (lawEnv L a ccd)) Q E s := D _ _ _ _ _ _ _ _ _ _ _ _ _ _ _ _ _ _ _ B F X N T hd hu hp hE ret
/-- the state at the law's first statement -/
def P0 (h₀ : Heap) (L : Addr) (m : Str → Option Value) (news : List (Addr × Obj)) : Prop :=
  ∃ o₁ o₂ o₃ o₄ o₅ o₆ o₇ o₈ o₉ ls vs ns, news = [(L + 9, o₁), (L + 8, o₂), (L + 7, o₃), (L + 6, o₄), (L + 5, o₅), (L + 4, o₆), (L + 3, o₇), (L + 2, o₈), (L + 1, o₉)] ∧ o₁.data = .cell none ∧ o₂.data = .cell none ∧ o₃.data = .cell none ∧ o₄.data = .cell none ∧ o₅.data = .cell none ∧
    o₆.data = .cell none ∧ o₇.data = .cell none ∧ o₈.data = .cell none ∧ o₉.data = .cell none ∧ h₀.IsList ls (List.toArray vs) ∧ IntsAre vs ns ∧ ns.length ≤ 63 ∧ m (Str.ofString "script") = some (.ref ls)
theorem law_top (H : ∀ w, AtLaw w lawS.1.2.1 P0) : PySem.Challenge.rw_sn0035_01.Holds := Mine.hd (by
  k_go0
  all_goals try k_fold
  rename Top _ _ _ _ _ _ => T
  rename CellsAre _ _ _ => X0
  rename Below _ _ _ _ => BL
  rename Fr _ _ _ _ => F
  rename News _ _ _ _ => N
  rename IntsAre _ _ => hI
  rename Heap.IsList _ _ _ => hL
  refine (H _).use BL F (by assumption) N T ?_ ?_ ?_ ?_ ?_
  · show 1 + claimMargin + 1 + 20 < recursionLimit
    decide +kernel
  · show 4 + 3 + 8 * 20 < cLine
    decide +kernel
  · exact ⟨_, _, _, _, _, _, _, _, _, _, _, _, rfl, (by assumption : Obj.data _ = _), by assumption, by assumption, by assumption, by assumption, by assumption, by assumption, by assumption, by assumption, hL, hI, by omega, rfl⟩
  · passes_own
  · intro h' m' tk' F'
    clear N F X0
    k_steps
    done)
section
variable {prog : Program} {w : World} {A : Around} {E : Value → Shared → Prop} {s : Shared} {h₀ : Heap} {L l : Addr} {m : Str → Option Value} {news : List (Addr × Obj)} {value slice : PySem.Expr} {us : List Value} {ns ms : List Int} {vl vu : Value} {lo hi : Option Int} {n : Nat} {Q : Value → Shared → Prop}
theorem m_slice (F : Fr h₀ L s.heap m) (N : News h₀ L s.heap news) (hl : s.heap.IsList l us.toArray) (pl : IsPart vl lo) (pu : IsPart vu hi) (hi' : IntsAre us ns) (hm : IntsAre (slicePick us.toArray lo hi none).toList ms) (hfit : ns.length ≤ 1000)
    (h : ∀ D ws h', Fr h₀ L h' m → News h₀ L h' ((D, listOf (List.toArray ws) 0) :: news) → (∀ p ∈ news, p.1 < D) → IntsAre ws ms → Q (.ref D) { s with heap := h' })
    (hs : subscripted slice false (.ref l) (.ref s.heap.objs.size) = operate [.ref s.heap.objs.size, .ref l] (getItem (.ref l) (.ref s.heap.objs.size))) (ht : ∀ r, letTemporaryGo value (.ref l) r = pure ()) :
    wpAny (model prog w) A (subscriptTail value slice (.ref l) (.ref s.heap.objs.size)) Q E { s with heap := s.heap.push { cls := .type "slice", data := .fields #[vl, vu, .none] } } :=
  kmk_slice_ints F N hl pl pu hi' hm rfl (fun D ws h' F' N' l1 hw _ _ => h D ws h' F' N' l1 hw) hs ht (kmk_sz hi' (by rw [sizeLine_eq]; omega))
end
def Draw (ps : List Int) : Prop := ∃ p₀ p₁ p₂ p₃ p₄ : Int, ps = [p₀, p₁, p₂, p₃, p₄] ∧ (0 ≤ p₀ ∧ p₀ < 3) ∧ (0 ≤ p₁ ∧ p₁ < 4) ∧ (0 ≤ p₂ ∧ p₂ < 5) ∧ (0 ≤ p₃ ∧ p₃ < 6) ∧ (0 ≤ p₄ ∧ p₄ < 7)
/-- the state ahead of the loop over the picks -/
def P3 (_h₀ : Heap) (L : Addr) (m : Str → Option Value) (news : List (Addr × Obj)) : Prop :=
  ∃ o₁ o₂ o₃ o₄ o₅ o₆ o₇ o₈ lp vp np lt lb ps, news = [(L + 9, o₁), (L + 8, o₂), (L + 7, o₃), (L + 6, o₄), (L + 5, o₅), (L + 4, o₆), (L + 3, o₇), (L + 2, o₈), (lb, listOf (List.toArray []) 0), (lt, listOf (List.toArray []) 0), (lp, listOf (List.toArray vp) np)] ∧
    o₁.data = .cell none ∧ o₂.data = .cell none ∧ o₃.data = .cell none ∧ o₄.data = .cell none ∧ o₅.data = .cell none ∧ o₆.data = .cell none ∧ o₇.data = .cell none ∧ o₈.data = .cell (some (.ref lt)) ∧ IntsAre vp ps ∧ Draw ps ∧
    m (Str.ofString "picks") = some (.ref lp) ∧ m (Str.ofString "begins") = some (.ref lb) ∧ (news.map (·.1)).Nodup
theorem nn {a b : Addr} (h : @Ne Nat a b) : ¬ a = b := h
theorem seg0 (w : World) (H : AtLaw w (lawS.1.2.1.drop 3) P3) : AtLaw w lawS.1.2.1 P0 := by
  dsimp only [AtLaw, lawS, lawEnv]
  k_fill
  intro loose mean mg mb dp un gd L a ccd outer A₀ base h₀ m s Q E news B F X N T hd hu hp hE hret
  obtain ⟨o₁, o₂, o₃, o₄, o₅, o₆, o₇, o₈, o₉, ls, vs, ns, rfl, d₁, d₂, d₃, d₄, d₅, d₆, d₇, d₈, d₉, hL, hI, hlen, hm⟩ := hp
  have hm' : ∀ p ∈ [(Str.ofString "script", Value.ref ls)], m p.1 = some p.2 := by
    intro p hp
    rw [List.mem_singleton.mp hp]; exact hm
  rw [← kst_self hm'] at F
  dsimp only [kstB] at F
  k_with_none
  (k_with "binaryOp Add ref ref" => (refine Hold.out ?_))
  (k_with "subscriptTail Name Slice ref ref" => (refine Hold.out ?_))
  (k_with "execs cons" => ((with_reducible show wpAny _ _ (execs (Stmt.For _ _ _ _ _ :: _) _) _ _ _); refine Hold.out ?_))
  k_steps
  refine Hold.mk ?_
  rename Fr _ _ _ _ => lF
  rename News _ _ _ _ => lN
  refine' m_slice lF lN (lF.lst hL) ?p ?q hI (kmk_upto (y := 5) hI (by decide)) (by omega) ?_ ?s ?t
  case p => exact .none
  case q => exact .int _ _
  case s => with_unfolding_all rfl
  case t => kmk_pure
  intro D1 ws1 h1 F1 N1 l1 I1
  clear lF lN
  (try k_lt l1)
  k_steps
  refine Hold.mk ?_
  rename Fr _ _ _ _ => lF
  rename News _ _ _ _ => lN
  refine' m_slice (us := [_, _, _, _, _]) (ns := [0, 3, 1, 4, 5]) lF lN ⟨_, (lN _ (.head _)).1, rfl, _, rfl⟩ ?p2 ?q2 (.cons _ _ (.cons _ _ (.cons _ _ (.cons _ _ (.cons _ _ .nil))))) (kmk_from (x := (ns.length : Int)) (.cons _ _ (.cons _ _ (.cons _ _ (.cons _ _ (.cons _ _ .nil))))) (by omega)) (by decide) ?_ ?s2 ?t2
  case p2 => exact .int _ _
  case q2 => exact .none
  case s2 => with_unfolding_all rfl
  case t2 => kmk_pure
  intro D2 ws2 h2 F2 N2 l2 I2
  clear lF lN
  (try k_lt l2)
  k_steps
  refine Hold.mk ?_
  refine m_cat F2 N2 (.tail _ (.tail _ (.head _))) (.head _) I1 I2 ?_ (by simp only [List.length_take, List.length_drop, List.length_cons, List.length_nil]; omega)
  intro D3 ws3 h3 F3 N3 l3 I3
  (try k_lt l3)
  clear F2 N2
  have hn5 : (List.take (Int.toNat 5) ns ++ List.drop (ns.length : Int).toNat [0, 3, 1, 4, 5]).length = 5 := by
    simp only [List.length_append, List.length_take, List.length_drop, List.length_cons, List.length_nil]; omega
  obtain ⟨nums, hnums⟩ : ∃ nums, nums = List.take (Int.toNat 5) ns ++ List.drop (ns.length : Int).toNat [0, 3, 1, 4, 5] := ⟨_, rfl⟩
  rw [← hnums] at I3 hn5
  (k_with "exec Assign cons ListComp" => (refine Hold.out ?_))
  (k_with "CompSrc" => (refine Hold.out ?_))
  (k_with "CompEnd" => (refine Hold.out ?_))
  k_steps
  refine Hold.mk ?_
  rename Fr _ _ _ _ => lF
  rename News _ _ _ _ => lN
  refine' LCg.Assign_ListComp_U (F₀ := lF) ?a1 ?a2 ?a3 ?a4 ?a5 ?a6 ?a7 ?a8 ?a9 ?a10 ?a11
  case a1 => rfl
  case a2 => with_unfolding_all rfl
  case a3 => with_unfolding_all rfl
  case a4 => decide
  case a5 => rfl
  case a6 => decide
  case a7 => rfl
  case a8 => rfl
  case a9 => rfl
  case a11 => intro _; rfl
  k_steps
  refine Hold.mk ?_
  rename Fr _ _ _ _ => lF
  rename News _ _ _ _ => lN
  refine LCg.CompSrc.range (n := 5) rfl lF lN (by assumption) (by decide) (by rfl) (by decide) ?_
  intro g'
  refine comp_inv (fun i ys nx => nx = _ ∧ IntsAre ys ((List.range i).map fun k => Int.fmod (nums.getD k 0) (3 + (k : Int)))) ?turn ?done 5 0 [] _ rfl ⟨rfl, .nil⟩
  case turn =>
    clear lF lN
    rintro i ys nx hi ⟨rfl, hys⟩ v I oI C oC D m₂ h tk E' ⟨t, rfl⟩ hC hx F' N' off ne
    rw [Int.zero_add] at hx
    have hi5 : (i : Int) < 5 := by omega
    k_steps
    refine Hold.mk ?_
    exact LCg.CompEnd.intro F' N' _ (fun p hp => hp) off trivial ⟨rfl, by rw [List.range_succ, List.map_append]; exact hys.append (.cons _ _ .nil)⟩
  case done =>
    clear lF lN
    rintro ys nx ⟨rfl, hys⟩
    unfold LCg.FinA
    intro Dp h tk F' N' off
    dsimp only [LCg.Off1] at off
    k_steps
    refine Hold.mk ?_
    rename_i lt _ x1 lb _ x2 Dt _ x3 _ _ ot dt _ F9 N9
    refine AtLaw.use H B F9 X (news := [(L + 9, o₁), (L + 8, o₂), (L + 7, o₃), (L + 6, o₄), (L + 5, o₅), (L + 4, o₆), (L + 3, o₇), (L + 2, ot), (lb, listOf (List.toArray []) 0), (lt, listOf (List.toArray []) 0), (Dp, listOf (List.toArray ys) ys.length)]) ?n T hd hu ⟨o₁, o₂, o₃, o₄, o₅, o₆, o₇, ot, Dp, ys, ys.length, lt, lb, _, rfl, d₁, d₂, d₃, d₄, d₅, d₆, d₇, dt, hys, ?dr, rfl, rfl, ?nd⟩ hE ?ret
    case n =>
      intro p hp
      refine N9 p ?_
      simp only [List.mem_cons, List.not_mem_nil, or_false] at hp
      rcases hp with rfl | rfl | rfl | rfl | rfl | rfl | rfl | rfl | rfl | rfl | rfl <;> k_mem
    case dr =>
      refine ⟨_, _, _, _, _, rfl, ?_, ?_, ?_, ?_, ?_⟩
      all_goals (show 0 ≤ Int.fmod _ _ ∧ Int.fmod _ _ < _; rw [Int.fmod_eq_emod_of_nonneg _ (by decide)]; exact ⟨Int.emod_nonneg _ (by decide), Int.emod_lt_of_pos _ (by decide)⟩)
    case nd =>
      simp only [List.map_cons, List.map_nil, List.nodup_cons, List.mem_cons, List.not_mem_nil, or_false, not_or, not_false_eq_true, List.nodup_nil, and_true]
      clear H hret N9 F9 d₁ d₂ d₃ d₄ d₅ d₆ d₇ d₈ d₉
      refine' ⟨⟨?_, ?_, ?_, ?_, ?_, ?_, ?_, ?_, ?_, ?_⟩, ⟨?_, ?_, ?_, ?_, ?_, ?_, ?_, ?_, ?_⟩, ⟨?_, ?_, ?_, ?_, ?_, ?_, ?_, ?_⟩, ⟨?_, ?_, ?_, ?_, ?_, ?_, ?_⟩, ⟨?_, ?_, ?_, ?_, ?_, ?_⟩, ⟨?_, ?_, ?_, ?_, ?_⟩, ⟨?_, ?_, ?_, ?_⟩, ⟨?_, ?_, ?_⟩, ⟨?_, ?_⟩, ?_⟩
      all_goals (refine nn ?_; omega)
    case ret => exact fun h' m' tk' F' => hret h' m' tk' F'
def copyF : Nat → Int → List Int → Option (List Int)
  | 0, _, t => some t
  | n + 1, x, t => if 0 ≤ x ∧ x < (t.length : Int) ∧ t.length < 100 then copyF n (x + 1) (t ++ [t.getD x.toNat 0]) else none
def textF : List Int → List Int → List Int → Option (List Int)
  | [], t, _ => some t
  | p :: ps, t, b =>
    if t.length < 100 ∧ b.length < 100 then
      if p < 3 then textF ps (t ++ [p]) (b ++ [(t.length : Int)])
      else if 0 ≤ p - 3 ∧ p - 2 < ((b ++ [(t.length : Int)]).length : Int) ∧ 0 ≤ (b ++ [(t.length : Int)]).getD (p - 3).toNat 0 ∧ (b ++ [(t.length : Int)]).getD (p - 3).toNat 0 ≤ (b ++ [(t.length : Int)]).getD (p - 2).toNat 0 + 1 ∧ (b ++ [(t.length : Int)]).getD (p - 2).toNat 0 < 100 then
        match copyF ((b ++ [(t.length : Int)]).getD (p - 2).toNat 0 + 1 - (b ++ [(t.length : Int)]).getD (p - 3).toNat 0).toNat ((b ++ [(t.length : Int)]).getD (p - 3).toNat 0) t with
        | some t' => textF ps t' (b ++ [(t.length : Int)])
        | none => none
      else none
    else none
/-- the state behind the loop over the picks -/
def P4 (_h₀ : Heap) (L : Addr) (m : Str → Option Value) (news : List (Addr × Obj)) : Prop :=
  ∃ o₁ o₂ o₃ o₄ o₅ o₆ o₇ o₈ lp vp np lt vt nt ps T, news = [(L + 9, o₁), (L + 8, o₂), (L + 7, o₃), (L + 6, o₄), (L + 5, o₅), (L + 4, o₆), (L + 3, o₇), (L + 2, o₈), (lt, listOf (List.toArray vt) nt), (lp, listOf (List.toArray vp) np)] ∧
    o₁.data = .cell none ∧ o₂.data = .cell none ∧ o₃.data = .cell none ∧ o₄.data = .cell none ∧ o₅.data = .cell none ∧ o₆.data = .cell none ∧ o₇.data = .cell none ∧ o₈.data = .cell (some (.ref lt)) ∧ IntsAre vp ps ∧ Draw ps ∧
    IntsAre vt T ∧ textF ps [] [] = some T ∧ m (Str.ofString "picks") = some (.ref lp) ∧ (news.map (·.1)).Nodup
def PickJ (R : List (Addr × Obj)) (c : Addr) (o : Obj) (lp lt lb : Addr) (ps T : List Int) (i : Nat) (m1 : Str → Option Value) (nx : List (Addr × Obj)) : Prop :=
  ∃ vt nt t vb nb b, nx = (lb, listOf (List.toArray vb) nb) :: (lt, listOf (List.toArray vt) nt) :: (c, o) :: R ∧ IntsAre vt t ∧ IntsAre vb b ∧ textF (ps.drop i) t b = some T ∧
    (∀ p ∈ [(Str.ofString "picks", Value.ref lp), (Str.ofString "begins", Value.ref lb)], m1 p.1 = some p.2)
theorem seg3 (w : World) (hT : ∀ ps, Draw ps → ∃ T, textF ps [] [] = some T) (H : AtLaw w (lawS.1.2.1.drop 4) P4) : AtLaw w (lawS.1.2.1.drop 3) P3 := by
  dsimp only [AtLaw, lawS, lawEnv, List.drop]
  k_fill
  intro loose mean mg mb dp un gd L a ccd outer A₀ base h₀ m s Q E news B F X N T hd hu hp hE hret
  obtain ⟨o₁, o₂, o₃, o₄, o₅, o₆, o₇, o₈, lp, vp, np, lt, lb, ps, rfl, d₁, d₂, d₃, d₄, d₅, d₆, d₇, d₈, hI, hD, hm1, hm2, hnd⟩ := hp
  obtain ⟨Tx, hTx⟩ := hT ps hD
  have hm' : ∀ p ∈ [(Str.ofString "picks", Value.ref lp), (Str.ofString "begins", Value.ref lb)], m p.1 = some p.2 := by
    intro p hp
    rcases List.mem_cons.mp hp with rfl | hp
    · exact hm1
    · rw [List.mem_singleton.mp hp]; exact hm2
  rw [← kst_self hm'] at F
  dsimp only [kstB] at F
  obtain ⟨R, hR⟩ : ∃ R, R = [(L + 9, o₁), (L + 8, o₂), (L + 7, o₃), (L + 6, o₄), (L + 5, o₅), (L + 4, o₆), (L + 3, o₇), (lp, listOf (List.toArray vp) np)] := ⟨_, rfl⟩
  have N1 : News h₀ L s.heap ((lb, listOf (List.toArray []) 0) :: (lt, listOf (List.toArray []) 0) :: (L + 2, o₈) :: R) := fun p hp => N p (by
    rw [hR] at hp
    simp only [List.mem_cons, List.not_mem_nil, or_false] at hp
    rcases hp with rfl | rfl | rfl | rfl | rfl | rfl | rfl | rfl | rfl | rfl | rfl <;> k_mem)
  have hpR : (lp, listOf (List.toArray vp) np) ∈ R := by rw [hR]; simp
  have hnd2 : List.Nodup (α := Nat) [L + 9, L + 8, L + 7, L + 6, L + 5, L + 4, L + 3, L + 2, lb, lt, lp] := hnd
  have n1 := (List.nodup_cons.mp ((List.Perm.nodup_iff (List.perm_middle (α := Nat) (l₁ := [L + 9, L + 8, L + 7, L + 6, L + 5, L + 4, L + 3, L + 2]) (a := lb) (l₂ := [lt, lp]))).mp hnd2)).1
  have n2 := (List.nodup_cons.mp ((List.Perm.nodup_iff (List.perm_middle (α := Nat) (l₁ := [L + 9, L + 8, L + 7, L + 6, L + 5, L + 4, L + 3, L + 2, lb]) (a := lt) (l₂ := [lp]))).mp hnd2)).1
  have hR1 : ∀ p ∈ R, p.1 ≠ lb := by
    intro p hp he
    rw [hR] at hp
    have hp2 : p.1 ∈ List.map (fun p : Addr × Obj => p.1) _ := List.mem_map_of_mem (f := fun p : Addr × Obj => p.1) hp
    rw [he] at hp2
    exact n1 ((show ∀ a ∈ ([L + 9, L + 8, L + 7, L + 6, L + 5, L + 4, L + 3, lp] : List Nat), a ∈ ([L + 9, L + 8, L + 7, L + 6, L + 5, L + 4, L + 3, L + 2, lt, lp] : List Nat) by
      repeat (refine List.forall_mem_cons.mpr ⟨by k_mem, ?_⟩)
      exact List.forall_mem_nil _) _ hp2)
  have hR2 : ∀ p ∈ R, p.1 ≠ lt := by
    intro p hp he
    rw [hR] at hp
    have hp2 : p.1 ∈ List.map (fun p : Addr × Obj => p.1) _ := List.mem_map_of_mem (f := fun p : Addr × Obj => p.1) hp
    rw [he] at hp2
    exact n2 ((show ∀ a ∈ ([L + 9, L + 8, L + 7, L + 6, L + 5, L + 4, L + 3, lp] : List Nat), a ∈ ([L + 9, L + 8, L + 7, L + 6, L + 5, L + 4, L + 3, L + 2, lb, lp] : List Nat) by
      repeat (refine List.forall_mem_cons.mpr ⟨by k_mem, ?_⟩)
      exact List.forall_mem_nil _) _ hp2)
  have hbt : lt ≠ lb := fun he => n1 (show @Membership.mem Nat _ _ _ lb by rw [← (show @Eq Nat lt lb from he)]; k_mem)
  have hcb : L + 2 ≠ lb := fun he => n1 (show @Membership.mem Nat _ _ _ lb by rw [← (show @Eq Nat (L + 2) lb from he)]; k_mem)
  have hct : L + 2 ≠ lt := fun he => n2 (show @Membership.mem Nat _ _ _ lt by rw [← (show @Eq Nat (L + 2) lt from he)]; k_mem)
  clear n1 n2
  clear hnd2
  clear N hm' hm1 hm2
  k_with_none
  (k_with "exec For Name Name cons nil" => (refine Hold.out ?_))
  (k_with "InvEndG" => (refine Hold.out ?_))
  (k_with "call builtin:list.append" => (refine Hold.out ?_))
  (k_with "pyIter ref" => (refine Hold.out ?_))
  k_steps
  refine Hold.mk ?_
  rename Fr _ _ _ _ => lF
  rename News _ _ _ _ => lN
  with_unfolding_all refine' For_invVF (hE := hE) lF ?f1 ?f2 ?f3
  case f1 => exact rfl
  case f2 => exact rfl
  k_steps
  refine Hold.mk ?_
  refine' kdl_iter (PickJ R (L + 2) o₈ lp lt lb ps Tx) rfl (.tail _ (.tail _ (.tail _ hpR))) lF lN ?l1 ?l2 ?l3
  case l1 =>
    refine' ⟨[], 0, [], [], 0, [], rfl, .nil, .nil, hTx, ?l4⟩
    case l4 => kst_all
  case l2 =>
    clear lF lN
    rintro i v m1 nx h tk own hv hoff hlp' ⟨vt, nt, t, vb, nb, b, rfl, hIt, hIb, htx, hm⟩ F1 N1
    have hil : i < ps.length := by rw [← hI.length]; exact (List.getElem?_eq_some_iff.mp hv).1
    obtain ⟨p, hp⟩ : ∃ p, p = ps[i]'hil := ⟨_, rfl⟩
    obtain ⟨tp, hvp⟩ := hI.get i p (by rw [hp]; exact List.getElem?_eq_getElem hil)
    have hv' : v = .int p tp := by rw [hvp] at hv; exact (Option.some.inj hv).symm
    subst hv'
    have hdr : ps.drop i = p :: ps.drop (i + 1) := by rw [hp]; exact List.drop_eq_getElem_cons hil
    rw [hdr, textF] at htx
    split at htx
    case isFalse => cases htx
    rename_i hfit
    obtain ⟨Y, hY⟩ : ∃ Y, Y = R ++ own := ⟨_, rfl⟩
    have hY1 : ∀ p ∈ (L + 2, o₈) :: Y, p.1 ≠ lb := by
      intro p hp
      rcases List.mem_cons.mp hp with rfl | hp
      · exact hcb
      · rw [hY] at hp
        rcases List.mem_append.mp hp with hp | hp
        · exact hR1 p hp
        · exact hoff p hp lb (.head _)
    have hY2 : ∀ p ∈ (L + 2, o₈) :: Y, p.1 ≠ lt := by
      intro p hp
      rcases List.mem_cons.mp hp with rfl | hp
      · exact hct
      · rw [hY] at hp
        rcases List.mem_append.mp hp with hp | hp
        · exact hR2 p hp
        · exact hoff p hp lt (.tail _ (.head _))
    rw [← kst_self hm] at F1
    dsimp only [kstB] at F1
    rw [List.cons_append, List.cons_append, List.cons_append, ← hY] at N1
    have hlt1 := hIt.length
    have hlb1 := hIb.length
    have hend : ∀ h' m' tk' vt' nt' t' vb' nb' b', Fr h₀ L h' m' → News h₀ L h' ((lb, listOf (List.toArray vb') nb') :: (lt, listOf (List.toArray vt') nt') :: (L + 2, o₈) :: Y) → IntsAre vt' t' → IntsAre vb' b' → textF (ps.drop (i + 1)) t' b' = some Tx →
        (∀ p ∈ [(Str.ofString "picks", Value.ref lp), (Str.ofString "begins", Value.ref lb)], m' p.1 = some p.2) →
        InvEndG h₀ L (fun m' nx => (lp, listOf (List.toArray vp) np) ∈ nx ∧ PickJ R (L + 2) o₈ lp lt lb ps Tx (i + 1) m' nx) own { s with heap := h, toks := tk } { s with heap := h', toks := tk' } := by
      intro h' m' tk' vt' nt' t' vb' nb' b' F' N' h1 h2 h3 h4
      refine InvEndG.intro F' N' (nx := (lb, listOf (List.toArray vb') nb') :: (lt, listOf (List.toArray vt') nt') :: (L + 2, o₈) :: R) ⟨.tail _ (.tail _ (.tail _ hpR)), vt', nt', t', vb', nb', b', rfl, h1, h2, h3, h4⟩ ?_ ?_ ?_
      · intro p hp b hb
        exact hoff p hp b hb
      · intro p hp
        rcases List.mem_cons.mp hp with rfl | hp
        · exact .head _
        · rcases List.mem_cons.mp hp with rfl | hp
          · exact .tail _ (.head _)
          · rcases List.mem_cons.mp hp with rfl | hp
            · exact .tail _ (.tail _ (.head _))
            · exact .tail _ (.tail _ (.tail _ (by rw [hY]; exact List.mem_append_left _ hp)))
      · intro p hp
        exact .tail _ (.tail _ (.tail _ (by rw [hY]; exact List.mem_append_right _ hp)))
    have hlen1 : vt.length < 1000 := by omega
    k_steps
    refine Hold.mk ?_
    rename_i tq tkq
    refine m_append F1 N1 (.head ?u1) ?_ (by omega)
    case u1 =>
      intro p hp
      rcases List.mem_cons.mp hp with rfl | hp
      · exact hbt
      · exact hY1 p hp
    clear F1 N1
    intro h8 F8 N8
    have hIb' : IntsAre (vb ++ [Value.int ↑vt.length tq]) (b ++ [(t.length : Int)]) := hIb.append (by rw [hlt1]; exact .cons _ _ .nil)
    obtain ⟨b', hb'⟩ : ∃ b', b' = b ++ [(t.length : Int)] := ⟨_, rfl⟩
    rw [← hb'] at hIb' htx
    have hb'l : b'.length < 1000 := by rw [hb', List.length_append]; show b.length + 1 < 1000; omega
    by_cases hp3 : p < 3
    · rw [if_pos hp3] at htx
      k_steps
      refine Hold.mk ?_
      rename Fr h₀ L _ _ => lF
      rename News h₀ L _ _ => lN
      refine m_append lF lN (.tail hbt.symm (.head hY2)) ?_ (by omega)
      clear lF lN
      intro h7 F7 N7
      k_steps
      refine Hold.mk ?_
      exact hend _ _ _ _ _ _ _ _ _ (by assumption) (by assumption) (hIt.append (.cons _ _ .nil)) hIb' htx (by kst_all)
    · rw [if_neg hp3] at htx
      split at htx
      case isFalse => cases htx
      rename_i hbd
      obtain ⟨xx, hxx⟩ : ∃ xx, xx = b'.getD (p - 3).toNat 0 := ⟨_, rfl⟩
      obtain ⟨yy, hyy⟩ : ∃ yy, yy = b'.getD (p - 2).toNat 0 := ⟨_, rfl⟩
      rw [← hxx, ← hyy] at htx hbd
      k_steps
      refine Hold.mk ?_
      rename Fr h₀ L _ _ => lF
      rename News h₀ L _ _ => lN
      rename IsRange _ _ _ _ _ _ _ _ => hir
      cases hcf : copyF (yy + 1 - xx).toNat xx t with
      | none => rw [hcf] at htx; cases htx
      | some t9 =>
        rw [hcf] at htx
        dsimp only at htx
        rw [← hxx, ← hyy] at hir
        refine' kdg_iter (n := (yy + 1 - xx).toNat) (fun k m1 nx => ∃ vt2 nt2 t2, nx = (lb, listOf (vb ++ [Value.int ↑vt.length tq]).toArray (nb + 1)) :: (lt, listOf (List.toArray vt2) nt2) :: (L + 2, o₈) :: Y ∧ IntsAre vt2 t2 ∧ copyF ((yy + 1 - xx).toNat - k) (xx + (k : Int)) t2 = some t9 ∧
          (∀ p ∈ [(Str.ofString "picks", Value.ref lp), (Str.ofString "begins", Value.ref lb)], m1 p.1 = some p.2)) rfl hir (small_one (by omega) (by omega) (by omega) (by omega)) (rangeSize_nat _ _) lF lN ?r1 ?r2 ?r3
        case r1 =>
          refine' ⟨vt, nt, t, rfl, hIt, ?r5, ?r4⟩
          case r5 => rw [Nat.sub_zero, show xx + ((0 : Nat) : Int) = xx by omega]; exact hcf
          case r4 => kst_all
        case r2 =>
          clear lF lN hir
          rintro k tk2 m2 nx h2 tkk own2 hk hoff2 ⟨vt2, nt2, t2, rfl, hI2, hc2, hm2⟩ F2 N2
          rw [show (yy + 1 - xx).toNat - k = ((yy + 1 - xx).toNat - (k + 1)) + 1 by omega, copyF] at hc2
          split at hc2
          case isFalse => cases hc2
          rename_i hin
          have hl2 := hI2.length
          rw [← kst_self hm2] at F2
          dsimp only [kstB] at F2
          obtain ⟨Z, hZ⟩ : ∃ Z, Z = Y ++ own2 := ⟨_, rfl⟩
          rw [List.cons_append, List.cons_append, List.cons_append, ← hZ] at N2
          have hl3 : vt2.length < 1000 := by omega
          k_steps
          refine Hold.mk ?_
          rename_i tw
          have hZ1 : ∀ p ∈ (L + 2, o₈) :: Z, p.1 ≠ lt := by
            intro p hp
            rcases List.mem_cons.mp hp with rfl | hp
            · exact hct
            · rw [hZ] at hp
              rcases List.mem_append.mp hp with hp | hp
              · exact hY2 p (.tail _ hp)
              · exact hoff2 p hp lt (.tail _ (.head _))
          rename Fr h₀ L _ _ => lF
          refine m_append lF N2 (.tail hbt.symm (.head hZ1)) ?_ (by omega)
          clear lF N2
          intro h7 F7 N7
          k_steps
          refine Hold.mk ?_
          rename Fr h₀ L _ _ => lF
          rename News h₀ L _ _ => lN
          refine InvEndG.intro lF lN (nx := (lb, listOf (vb ++ [Value.int ↑vt.length tq]).toArray (nb + 1)) :: (lt, listOf (List.toArray (vt2 ++ [Value.int (t2.getD (xx + (k : Int)).toNat 0) tw])) (nt2 + 1)) :: (L + 2, o₈) :: Y) ⟨_, _, _, rfl, hI2.append (.cons (t2.getD (xx + (k : Int)).toNat 0) tw .nil), ?_, ?_⟩ ?_ ?_ ?_
          · rw [show xx + ((k + 1 : Nat) : Int) = xx + (k : Int) + 1 by omega]; exact hc2
          · kst_all
          · intro p hp b hb
            exact hoff2 p hp b hb
          · intro p hp
            rcases List.mem_cons.mp hp with rfl | hp
            · exact .head _
            · rcases List.mem_cons.mp hp with rfl | hp
              · exact .tail _ (.head _)
              · rcases List.mem_cons.mp hp with rfl | hp
                · exact .tail _ (.tail _ (.head _))
                · exact .tail _ (.tail _ (.tail _ (by rw [hZ]; exact List.mem_append_left _ hp)))
          · intro p hp
            exact .tail _ (.tail _ (.tail _ (by rw [hZ]; exact List.mem_append_right _ hp)))
        case r3 =>
          clear lF lN hir
          rintro m2 nx h2 tkk ⟨vt2, nt2, t2, rfl, hI2, hc2, hm2⟩ F2 N2
          rw [Nat.sub_self, copyF] at hc2
          have he : t2 = t9 := Option.some.inj hc2
          subst he
          rw [← kst_self hm2] at F2
          dsimp only [kstB] at F2
          k_steps
          refine Hold.mk ?_
          exact hend _ _ _ _ _ _ _ _ _ (by assumption) (by assumption) hI2 hIb' htx (by kst_all)
  case l3 =>
    clear lF lN
    rintro m1 nx h tk ⟨vt, nt, t, vb, nb, b, rfl, hIt, hIb, htx, hm⟩ F1 N1
    rw [hI.length, List.drop_length, textF] at htx
    have he : t = Tx := Option.some.inj htx
    subst he
    dsimp only
    refine AtLaw.use H B F1 X (news := [(L + 9, o₁), (L + 8, o₂), (L + 7, o₃), (L + 6, o₄), (L + 5, o₅), (L + 4, o₆), (L + 3, o₇), (L + 2, o₈), (lt, listOf (List.toArray vt) nt), (lp, listOf (List.toArray vp) np)]) ?n T hd hu
      ⟨o₁, o₂, o₃, o₄, o₅, o₆, o₇, o₈, lp, vp, np, lt, vt, nt, ps, t, rfl, d₁, d₂, d₃, d₄, d₅, d₆, d₇, d₈, hI, hD, hIt, hTx, hm _ (.head _), ?nd⟩ hE ?ret
    case n =>
      intro p hp
      refine N1 p ?_
      rw [hR]
      simp only [List.mem_cons, List.not_mem_nil, or_false] at hp
      rcases hp with rfl | rfl | rfl | rfl | rfl | rfl | rfl | rfl | rfl | rfl <;> k_mem
    case nd =>
      show List.Nodup (α := Nat) [L + 9, L + 8, L + 7, L + 6, L + 5, L + 4, L + 3, L + 2, lt, lp]
      exact List.Nodup.sublist (.cons₂ _ (.cons₂ _ (.cons₂ _ (.cons₂ _ (.cons₂ _ (.cons₂ _ (.cons₂ _ (.cons₂ _ (.cons _ (.cons₂ _ (.cons₂ _ .slnil))))))))))) (show List.Nodup (α := Nat) [L + 9, L + 8, L + 7, L + 6, L + 5, L + 4, L + 3, L + 2, lb, lt, lp] from hnd)
    case ret => exact fun h' m' tk' F' => hret h' m' tk' F'
def oneL : List Int := [255, 1, -256, 256, 257, 258, 259]
def twoL : List Int := [1, -256, 255, 256, 257, 258, 259]
def sel (l : List Int) (is : List Int) : List Int := is.map fun i => l.getD i.toNat 0
/-- what the plain law tells of a draw, ahead of the reading -/
structure Laid (ps T pk : List Int) (ar1 ar : List (Int × Int)) : Prop where
  text : textF ps [] [] = some T
  short : T.length ≤ 20
  letters : ∀ p ∈ T, 0 ≤ p ∧ p < 3
  packs : pk = packF (sel twoL T) [] [] 0
  plen : pk.length < 60
  first : laidF 0 (sel oneL ps ++ [0]) [] 0 = some ar1
  second : laidF ar1.length pk ar1 0 = some ar
  fits : ar.length < 100
theorem sel_take {l T : List Int} {i : Nat} (h : i < T.length) : sel l (T.take (i + 1)) = sel l (T.take i) ++ [l.getD (T[i]'h).toNat 0] := by
  unfold sel
  rw [List.take_add_one, List.getElem?_eq_getElem h, List.map_append]
  rfl
theorem sel_two {T : List Int} (h : ∀ p ∈ T, 0 ≤ p ∧ p < 3) : ∀ c ∈ sel twoL T, c < 256 := by
  intro c hc
  obtain ⟨p, hp, rfl⟩ := List.mem_map.mp hc
  obtain ⟨h0, h1⟩ := h p hp
  have : p = 0 ∨ p = 1 ∨ p = 2 := by omega
  rcases this with rfl | rfl | rfl <;> decide
/-- the state ahead of the archive's laying -/
def P7 (_h₀ : Heap) (L : Addr) (m : Str → Option Value) (news : List (Addr × Obj)) : Prop :=
  ∃ o₁ o₂ o₃ o₄ o₅ o₆ o₇ o₈ la lf lk vk nk l1 v1 n1 l2 v2 n2 lt vt nt lp vp np ps T pk ar1 ar t0, news = [(L + 9, o₁), (L + 8, o₂), (L + 7, o₃), (L + 6, o₄), (L + 5, o₅), (L + 4, o₆), (L + 3, o₇), (L + 2, o₈), (la, listOf (List.toArray []) 0), (lf, listOf (List.toArray []) 0),
      (lk, listOf (List.toArray vk) nk), (l1, listOf (List.toArray v1) n1), (l2, listOf (List.toArray v2) n2), (lt, listOf (List.toArray vt) nt), (lp, listOf (List.toArray vp) np)] ∧
    o₁.data = .cell none ∧ o₂.data = .cell none ∧ o₃.data = .cell none ∧ o₄.data = .cell (some (.int 0 t0)) ∧ o₅.data = .cell (some (.ref la)) ∧ o₆.data = .cell (some (.ref l2)) ∧ o₇.data = .cell (some (.ref l1)) ∧ o₈.data = .cell (some (.ref lt)) ∧
    IntsAre vk pk ∧ IntsAre v1 oneL ∧ IntsAre v2 twoL ∧ IntsAre vt T ∧ IntsAre vp ps ∧ Draw ps ∧ Laid ps T pk ar1 ar ∧
    m (Str.ofString "picks") = some (.ref lp) ∧ m (Str.ofString "packed") = some (.ref lk) ∧ m (Str.ofString "fresh") = some (.ref lf) ∧ (news.map (·.1)).Nodup
theorem nd_join {x₁ x₂ x₃ x₄ x₅ x₆ x₇ x₈ lt lp la lf D4 D1 D2 : Nat} (hnd : List.Nodup [x₁, x₂, x₃, x₄, x₅, x₆, x₇, x₈, lt, lp]) (h10 : ∀ a ∈ [x₁, x₂, x₃, x₄, x₅, x₆, x₇, x₈, lt, lp], a < D1)
    (c1 : D1 < D2) (c2 : D2 < D4) (c3 : D4 < la) (c4 : la < lf) : List.Nodup [x₁, x₂, x₃, x₄, x₅, x₆, x₇, x₈, la, lf, D4, D1, D2, lt, lp] := by
  have hN : List.Nodup [la, lf, D4, D1, D2] := by
    simp only [List.nodup_cons, List.mem_cons, List.not_mem_nil, or_false, not_or, not_false_eq_true, List.nodup_nil, and_true]
    omega
  have hge : ∀ b ∈ [la, lf, D4, D1, D2], D1 ≤ b := by
    intro b hb
    simp only [List.mem_cons, List.not_mem_nil, or_false] at hb
    omega
  exact (List.Perm.nodup_iff (List.Perm.append_left [x₁, x₂, x₃, x₄, x₅, x₆, x₇, x₈] (List.perm_append_comm (l₁ := [la, lf, D4, D1, D2]) (l₂ := [lt, lp])))).mpr
    (show List.Nodup ([x₁, x₂, x₃, x₄, x₅, x₆, x₇, x₈, lt, lp] ++ [la, lf, D4, D1, D2]) from List.nodup_append.mpr ⟨hnd, hN, fun a ha b hb => Nat.ne_of_lt (Nat.lt_of_lt_of_le (h10 a ha) (hge b hb))⟩)
theorem seg4 (w : World) (hT : ∀ ps, Draw ps → ∃ T pk ar1 ar, Laid ps T pk ar1 ar) (H : AtLaw w (lawS.1.2.1.drop 7) P7) : AtLaw w (lawS.1.2.1.drop 4) P4 := by
  dsimp only [AtLaw, lawS, lawEnv, List.drop]
  k_fill
  intro loose mean mg mb dp un gd L a ccd outer A₀ base h₀ m s Q E news B F X N T hd hu hp hE hret
  obtain ⟨o₁, o₂, o₃, o₄, o₅, o₆, o₇, o₈, lp, vp, np, lt, vt, nt, ps, Tx, rfl, d₁, d₂, d₃, d₄, d₅, d₆, d₇, d₈, hI, hD, hIt, hTx, hm1, hnd⟩ := hp
  obtain ⟨Tx', pk, ar1, ar, hLd⟩ := hT ps hD
  have hte : Tx' = Tx := Option.some.inj (hLd.text.symm.trans hTx)
  subst hte
  have hm' : ∀ p ∈ [(Str.ofString "picks", Value.ref lp)], m p.1 = some p.2 := by
    intro p hp
    rw [List.mem_singleton.mp hp]; exact hm1
  rw [← kst_self hm'] at F
  dsimp only [kstB] at F
  have hnd2 : List.Nodup (α := Nat) [L + 9, L + 8, L + 7, L + 6, L + 5, L + 4, L + 3, L + 2, lt, lp] := hnd
  simp only [List.nodup_cons, List.mem_cons, List.not_mem_nil, or_false, not_or, not_false_eq_true, List.nodup_nil, and_true] at hnd2
  have glt3 : @Ne Nat lt (L + 3) := fun he => absurd (show @Eq Nat (L + 3) lt from he.symm) (by simp only [hnd2, not_false_eq_true])
  have glt4 : @Ne Nat lt (L + 4) := fun he => absurd (show @Eq Nat (L + 4) lt from he.symm) (by simp only [hnd2, not_false_eq_true])
  have glt5 : @Ne Nat lt (L + 5) := fun he => absurd (show @Eq Nat (L + 5) lt from he.symm) (by simp only [hnd2, not_false_eq_true])
  have glt6 : @Ne Nat lt (L + 6) := fun he => absurd (show @Eq Nat (L + 6) lt from he.symm) (by simp only [hnd2, not_false_eq_true])
  have glp3 : @Ne Nat lp (L + 3) := fun he => absurd (show @Eq Nat (L + 3) lp from he.symm) (by simp only [hnd2, not_false_eq_true])
  have glp4 : @Ne Nat lp (L + 4) := fun he => absurd (show @Eq Nat (L + 4) lp from he.symm) (by simp only [hnd2, not_false_eq_true])
  have glp5 : @Ne Nat lp (L + 5) := fun he => absurd (show @Eq Nat (L + 5) lp from he.symm) (by simp only [hnd2, not_false_eq_true])
  have glp6 : @Ne Nat lp (L + 6) := fun he => absurd (show @Eq Nat (L + 6) lp from he.symm) (by simp only [hnd2, not_false_eq_true])
  clear hm' hm1 hnd2
  k_with_none
  (k_with "exec Assign cons ListComp" => (refine Hold.out ?_))
  (k_with "eval ListComp" => (refine Hold.out ?_))
  (k_with "CompSrc" => (refine Hold.out ?_))
  (k_with "CompEnd" => (refine Hold.out ?_))
  (k_with "binaryOp Add ref ref" => (refine Hold.out ?_))
  (k_with "call ref" => (refine Hold.out ?_))
  (k_with "execs cons" => ((with_reducible show wpAny _ _ (execs (Stmt.Expr _ _ :: _) _) _ _ _); refine Hold.out ?_))
  k_steps
  refine Hold.mk ?_
  rename Fr _ _ _ _ => lF
  rename News _ _ _ _ => lN
  refine' LCg.Assign_ListComp_U (F₀ := lF) ?a1 ?a2 ?a3 ?a4 ?a5 ?a6 ?a7 ?a8 ?a9 ?a10 ?a11
  case a1 => rfl
  case a2 => with_unfolding_all rfl
  case a3 => with_unfolding_all rfl
  case a4 => decide
  case a5 => rfl
  case a6 => decide
  case a7 => rfl
  case a8 => rfl
  case a9 => rfl
  case a11 => intro _; rfl
  k_steps
  refine Hold.mk ?_
  rename Fr _ _ _ _ => lF2
  rename News _ _ _ _ => lN2
  refine LCg.CompSrc.range (n := 4) rfl lF2 lN2 (by assumption) (by decide) (by rfl) (by decide) ?_
  intro g'
  refine comp_inv (fun i ys nx => nx = _ ∧ IntsAre ys ((List.range i).map fun (k : Nat) => 256 + (k : Int))) ?turn ?done 4 0 [] _ rfl ⟨rfl, .nil⟩
  case turn =>
    clear lF2 lN2
    rintro i ys nx hi ⟨rfl, hys⟩ v I oI C oC D m₂ h tk E' ⟨t, rfl⟩ hC hx F' N' off ne
    rw [Int.zero_add] at hx
    k_steps
    refine Hold.mk ?_
    exact LCg.CompEnd.intro F' N' _ (fun p hp => hp) off trivial ⟨rfl, by rw [List.range_succ, List.map_append]; exact hys.append (.cons _ _ .nil)⟩
  case done =>
    clear lF2 lN2
    rintro ys nx ⟨rfl, hys⟩
    unfold LCg.FinA
    intro Dp h tk F' N' off
    dsimp only [LCg.Off1] at off
    have hyl : ys.length = 4 := hys.length
    k_steps
    refine Hold.mk ?_
    rename Fr _ _ _ _ => lF
    rename News _ _ _ _ => lN
    refine m_cat lF lN (.head _) (.tail _ (.head _)) (ns := [255, 1, -256]) (.cons _ _ (.cons _ _ (.cons _ _ .nil))) hys ?_ (by decide)
    intro D1 x1 h1 F1 N1 l1 I1
    replace I1 : IntsAre x1 oneL := I1
    (try k_lt l1)
    clear lF lN
    k_steps
    refine Hold.mk ?_
    rename Fr _ _ _ _ => lF
    rename News _ _ _ _ => lN
    refine m_cat lF lN (.head _) (.tail _ (.tail _ (.tail _ (.head _)))) (ns := [1, -256, 255]) (.cons _ _ (.cons _ _ (.cons _ _ .nil))) hys ?_ (by decide)
    intro D2 x2 h2 F2 N2 l2 I2
    replace I2 : IntsAre x2 twoL := I2
    (try k_lt l2)
    clear lF lN
    k_steps
    refine Hold.mk ?_
    rename_i q5 _ q4 _ _ oone done1 _ otwo _ _ dtwo
    rename Fr _ _ _ _ => lF
    rename News _ _ _ _ => lN
    refine' LCg.ListComp_U (F₀ := lF) ?b1 ?b2 ?b3 ?b4 ?b5 ?b6 ?b7
    case b1 => with_unfolding_all rfl
    case b2 => decide
    case b3 => rfl
    case b4 => decide
    case b5 => rfl
    case b7 => intro _; rfl
    k_steps
    refine Hold.mk ?_
    rename Fr _ _ _ _ => lF2
    rename News _ _ _ _ => lN2
    refine LCg.CompSrc.ledger (its := vt.toArray) (k := nt) rfl lF2 lN2 ?sm ?ss ?_
    case sm => simp
    case ss =>
      rw [List.size_toArray, sizeLine_eq, hIt.length]
      have := hLd.short
      omega
    intro g2
    refine comp_inv (fun i ys nx => nx = _ ∧ IntsAre ys (sel twoL (Tx'.take i))) ?turn2 ?done2 _ 0 [] _ (Nat.zero_add _) ⟨rfl, .nil⟩
    case turn2 =>
      clear lF2 lN2
      rintro i ys nx hi ⟨rfl, hys2⟩ v I oI C oC D m₂ h tk E' hv hC hx F' N' off2 ne
      have hil : i < Tx'.length := by rw [List.size_toArray, hIt.length] at hi; exact hi
      obtain ⟨p, hp⟩ : ∃ p, p = Tx'[i]'hil := ⟨_, rfl⟩
      obtain ⟨tp, hvp⟩ := hIt.get i p (by rw [hp]; exact List.getElem?_eq_getElem hil)
      have hv' : v = .int p tp := by
        have hv2 : vt[i]? = some v := by simpa using hv
        rw [hvp] at hv2; exact (Option.some.inj hv2).symm
      subst hv'
      have hpl := hLd.letters p (by rw [hp]; exact List.getElem_mem hil)
      have htl : (twoL.length : Int) = 7 := rfl
      k_steps
      refine Hold.mk ?_
      refine LCg.CompEnd.intro F' N' _ (fun p hp => hp) off2 (.inr ⟨listOf vt.toArray nt, ?sr, rfl, nt, rfl⟩) ⟨rfl, ?si⟩
      case sr => simp
      case si => rw [sel_take hil, ← hp]; exact hys2.append (.cons _ _ .nil)
    case done2 =>
      clear lF2 lN2
      rintro ys nx ⟨rfl, hys2⟩
      unfold LCg.FinE
      intro D3 h tk F' N' off2
      dsimp only [LCg.Off1] at off2
      k_steps
      refine Hold.mk ?_
      have hys3 : IntsAre ys (sel twoL Tx') := by
        rw [List.size_toArray, hIt.length, List.take_length] at hys2; exact hys2
      refine' Does.use (packed w _ D3 ys (sel twoL Tx') ys.length (.head _) hys3 (by unfold sel; rw [List.length_map]; exact hLd.short) (sel_two hLd.letters)) (by k_asm) (by k_asm) (by k_asm) (by k_asm) (by k_asm) (by first | exact rfl | assumption) (by ktr_room) (by ktr_units) ?_
      rintro _ _ h4 tk4 F4 N4 ⟨D4, vs4, n4, rfl, rfl, hI4, l4⟩
      rw [← hLd.packs] at hI4
      (try k_lt l4)
      k_steps
      refine Hold.mk ?_
      rename_i la _ q1 lf _ q2 Dt _ q3 _ _ _ oar dar _ _ ofi F9 N9 dfi
      refine AtLaw.use H B F9 X (news := [(L + 9, o₁), (L + 8, o₂), (L + 7, o₃), (L + 6, ofi), (L + 5, oar), (L + 4, otwo), (L + 3, oone), (L + 2, o₈), (la, listOf (List.toArray []) 0), (lf, listOf (List.toArray []) 0),
        (D4, listOf (List.toArray vs4) n4), (D1, listOf (List.toArray x1) 0), (D2, listOf (List.toArray x2) 0), (lt, listOf (List.toArray vt) nt), (lp, listOf (List.toArray vp) np)]) ?n T hd hu
        ⟨o₁, o₂, o₃, ofi, oar, otwo, oone, o₈, la, lf, D4, vs4, n4, D1, x1, 0, D2, x2, 0, lt, vt, nt, lp, vp, np, ps, Tx', pk, ar1, ar, _, rfl, d₁, d₂, d₃, dfi, dar, dtwo, done1, d₈, hI4, I1, I2, hIt, hI, hD, hLd, rfl, rfl, rfl, ?nd⟩ hE ?ret
      case n =>
        intro p hp
        refine N9 p ?_
        simp only [List.mem_cons, List.not_mem_nil, or_false] at hp
        rcases hp with rfl | rfl | rfl | rfl | rfl | rfl | rfl | rfl | rfl | rfl | rfl | rfl | rfl | rfl | rfl <;> k_mem
      case nd =>
        show List.Nodup (α := Nat) [L + 9, L + 8, L + 7, L + 6, L + 5, L + 4, L + 3, L + 2, la, lf, D4, D1, D2, lt, lp]
        clear H hret N9 F9 glt3 glt4 glt5 glt6 glp3 glp4 glp5 glp6 off off2
        have hnd1 : List.Nodup (α := Nat) [L + 9, L + 8, L + 7, L + 6, L + 5, L + 4, L + 3, L + 2, lt, lp] := hnd
        have h10 : ∀ a ∈ ([L + 9, L + 8, L + 7, L + 6, L + 5, L + 4, L + 3, L + 2, lt, lp] : List Nat), @LT.lt Nat _ a D1 := by
          repeat (refine List.forall_mem_cons.mpr ⟨by omega, ?_⟩)
          exact List.forall_mem_nil _
        have c1 : @LT.lt Nat _ D1 D2 := by omega
        have c2 : @LT.lt Nat _ D2 D4 := by omega
        have c3 : @LT.lt Nat _ D4 la := by omega
        have c4 : @LT.lt Nat _ la lf := by omega
        clear hnd
        exact nd_join hnd1 h10 c1 c2 c3 c4
      case ret => exact fun h' m' tk' F' => hret h' m' tk' F'
/-- the state ahead of the loop over the two ends -/
def P9 (_h₀ : Heap) (L : Addr) (m : Str → Option Value) (news : List (Addr × Obj)) : Prop :=
  ∃ o₁ o₂ o₃ o₄ o₅ o₆ o₇ o₈ la va na lf lk vk nk l1 v1 n1 l2 v2 n2 lt vt nt lp vp np ps T pk ar1 ar t0 add, news = [(L + 9, o₁), (L + 8, o₂), (L + 7, o₃), (L + 6, o₄), (L + 5, o₅), (L + 4, o₆), (L + 3, o₇), (L + 2, o₈), (la, listOf (List.toArray va) na), (lf, listOf (List.toArray []) 0),
      (lk, listOf (List.toArray vk) nk), (l1, listOf (List.toArray v1) n1), (l2, listOf (List.toArray v2) n2), (lt, listOf (List.toArray vt) nt), (lp, listOf (List.toArray vp) np)] ++ add ∧
    o₁.data = .cell none ∧ o₂.data = .cell none ∧ o₃.data = .cell none ∧ o₄.data = .cell (some (.int 0 t0)) ∧ o₅.data = .cell (some (.ref la)) ∧ o₆.data = .cell (some (.ref l2)) ∧ o₇.data = .cell (some (.ref l1)) ∧ o₈.data = .cell (some (.ref lt)) ∧
    ArAre news va ar ∧ IntsAre vk pk ∧ IntsAre v1 oneL ∧ IntsAre v2 twoL ∧ IntsAre vt T ∧ IntsAre vp ps ∧ Draw ps ∧ Laid ps T pk ar1 ar ∧
    m (Str.ofString "picks") = some (.ref lp) ∧ m (Str.ofString "packed") = some (.ref lk) ∧ m (Str.ofString "fresh") = some (.ref lf) ∧ List.Nodup (α := Nat) [L + 9, L + 8, L + 7, L + 6, L + 5, L + 4, L + 3, L + 2, la, lf, lk, l1, l2, lt, lp] ∧
    (∀ p ∈ add, ∀ q ∈ [L + 9, L + 8, L + 7, L + 6, L + 5, L + 4, L + 3, L + 2, la, lf, lk, l1, l2, lt, lp], @LT.lt Nat _ q p.1)
theorem seg7 (w : World) (H : AtLaw w (lawS.1.2.1.drop 9) P9) : AtLaw w (lawS.1.2.1.drop 7) P7 := by
  dsimp only [AtLaw, lawS, lawEnv, List.drop]
  k_fill
  intro loose mean mg mb dp un gd L a ccd outer A₀ base h₀ m s Q E news B F X N T hd hu hp hE hret
  obtain ⟨o₁, o₂, o₃, o₄, o₅, o₆, o₇, o₈, la, lf, lk, vk, nk, l1, v1, n1, l2, v2, n2, lt, vt, nt, lp, vp, np, ps, Tx, pk, ar1, ar, t0, rfl, d₁, d₂, d₃, d₄, d₅, d₆, d₇, d₈, hIk, hI1, hI2, hIt, hI, hD, hLd, hm1, hm2, hm3, hnd⟩ := hp
  have hm' : ∀ p ∈ [(Str.ofString "picks", Value.ref lp), (Str.ofString "packed", Value.ref lk), (Str.ofString "fresh", Value.ref lf)], m p.1 = some p.2 := by
    intro p hp
    rcases List.mem_cons.mp hp with rfl | hp
    · exact hm1
    · rcases List.mem_cons.mp hp with rfl | hp
      · exact hm2
      · rw [List.mem_singleton.mp hp]; exact hm3
  rw [← kst_self hm'] at F
  dsimp only [kstB] at F
  have hnd2 : List.Nodup (α := Nat) [L + 9, L + 8, L + 7, L + 6, L + 5, L + 4, L + 3, L + 2, la, lf, lk, l1, l2, lt, lp] := hnd
  clear hm' hm1 hm2 hm3 hnd
  k_with_none
  (k_with "eval ListComp" => (refine Hold.out ?_))
  (k_with "CompSrc" => (refine Hold.out ?_))
  (k_with "CompEnd" => (refine Hold.out ?_))
  (k_with "binaryOp Add ref ref" => (refine Hold.out ?_))
  (k_with "call ref" => (refine Hold.out ?_))
  (k_with "execs cons" => ((with_reducible show wpAny _ _ (execs (Stmt.For _ _ _ _ _ :: _) _) _ _ _); refine Hold.out ?_))
  k_steps
  refine Hold.mk ?_
  rename Fr _ _ _ _ => lF
  rename News _ _ _ _ => lN
  refine' LCg.ListComp_U (F₀ := lF) ?b1 ?b2 ?b3 ?b4 ?b5 ?b6 ?b7
  case b1 => with_unfolding_all rfl
  case b2 => decide
  case b3 => rfl
  case b4 => decide
  case b5 => rfl
  case b7 => intro _; rfl
  k_steps
  refine Hold.mk ?_
  rename Fr _ _ _ _ => lF2
  rename News _ _ _ _ => lN2
  refine LCg.CompSrc.ledger (its := vp.toArray) (k := np) rfl lF2 lN2 ?sm ?ss ?_
  case sm => simp
  case ss =>
    obtain ⟨p₀, p₁, p₂, p₃, p₄, rfl, _⟩ := hD
    rw [List.size_toArray, sizeLine_eq, hI.length]
    exact Nat.le_of_ble_eq_true rfl
  intro g2
  refine comp_inv (fun i ys nx => nx = _ ∧ IntsAre ys (sel oneL (ps.take i))) ?turn2 ?done2 _ 0 [] _ (Nat.zero_add _) ⟨rfl, .nil⟩
  case turn2 =>
    clear lF2 lN2
    rintro i ys nx hi ⟨rfl, hys2⟩ v I oI C oC D m₂ h tk E' hv hC hx F' N' off2 ne
    have hil : i < ps.length := by rw [List.size_toArray, hI.length] at hi; exact hi
    obtain ⟨p, hp⟩ : ∃ p, p = ps[i]'hil := ⟨_, rfl⟩
    obtain ⟨tp, hvp⟩ := hI.get i p (by rw [hp]; exact List.getElem?_eq_getElem hil)
    have hv' : v = .int p tp := by
      have hv2 : vp[i]? = some v := by simpa using hv
      rw [hvp] at hv2; exact (Option.some.inj hv2).symm
    subst hv'
    have hpl : 0 ≤ p ∧ p < 7 := by
      have hmem : p ∈ ps := by rw [hp]; exact List.getElem_mem hil
      obtain ⟨p₀, p₁, p₂, p₃, p₄, rfl, _⟩ := hD
      simp only [List.mem_cons, List.not_mem_nil, or_false] at hmem
      omega
    have htl : (oneL.length : Int) = 7 := rfl
    k_steps
    refine Hold.mk ?_
    refine LCg.CompEnd.intro F' N' _ (fun p hp => hp) off2 (.inr ⟨listOf vp.toArray np, ?sr, rfl, np, rfl⟩) ⟨rfl, ?si⟩
    case sr => simp
    case si => rw [sel_take hil, ← hp]; exact hys2.append (.cons _ _ .nil)
  case done2 =>
    clear lF2 lN2
    rintro ys nx ⟨rfl, hys2⟩
    unfold LCg.FinE
    intro D3 h tk F' N' off2
    dsimp only [LCg.Off1] at off2
    k_steps
    refine Hold.mk ?_
    have hys3 : IntsAre ys (sel oneL ps) := by
      rw [List.size_toArray, hI.length, List.take_length] at hys2; exact hys2
    have hps5 : (sel oneL ps).length = 5 := by
      obtain ⟨p₀, p₁, p₂, p₃, p₄, rfl, _⟩ := hD
      rfl
    rename Fr _ _ _ _ => lF
    rename News _ _ _ _ => lN
    refine m_cat lF lN (.tail _ (.head _)) (.head _) hys3 (.cons _ _ .nil) ?_ (by rw [hps5]; decide)
    intro D6 x6 h6 F6 N6 l6 I6
    have hla6 : ∀ p ∈ [(L + 9, o₁), (L + 8, o₂), (L + 7, o₃), (L + 6, o₄), (L + 5, o₅), (L + 4, o₆), (L + 3, o₇), (L + 2, o₈), (la, listOf (List.toArray []) 0), (lf, listOf (List.toArray []) 0),
      (lk, listOf (List.toArray vk) nk), (l1, listOf (List.toArray v1) n1), (l2, listOf (List.toArray v2) n2), (lt, listOf (List.toArray vt) nt), (lp, listOf (List.toArray vp) np)], p.1 < D6 := fun p hp => l6 p (.tail _ (.tail _ hp))
    clear lF lN
    k_steps
    refine Hold.mk ?_
    rename Fr _ _ _ _ => lF
    rename News _ _ _ _ => lN
    obtain ⟨R, hR⟩ : ∃ R, R = [(L + 9, o₁), (L + 8, o₂), (L + 7, o₃), (L + 6, o₄), (L + 5, o₅), (L + 4, o₆), (L + 3, o₇), (L + 2, o₈), (lf, listOf (List.toArray []) 0),
      (lk, listOf (List.toArray vk) nk), (l1, listOf (List.toArray v1) n1), (l2, listOf (List.toArray v2) n2), (lt, listOf (List.toArray vt) nt), (lp, listOf (List.toArray vp) np)] := ⟨_, rfl⟩
    have N7 : News h₀ L _ ((la, listOf (List.toArray []) 0) :: (D6, listOf (List.toArray x6) 0) :: R) := fun p hp => lN p ((show ∀ p ∈ (la, listOf (List.toArray []) 0) :: (D6, listOf (List.toArray x6) 0) :: R, p ∈ _ by
      rw [hR]
      repeat (refine List.forall_mem_cons.mpr ⟨by k_mem, ?_⟩)
      exact List.forall_mem_nil _) p hp)
    clear lN
    have hle := laidF_len hLd.second
    have hfit := hLd.fits
    have h100 : ar1.length < 100 := by clear hnd2; omega
    have hRa : ∀ p ∈ R, p.1 ≠ la := by
      have hn := (List.nodup_cons.mp ((List.Perm.nodup_iff (List.perm_middle (α := Nat) (l₁ := [L + 9, L + 8, L + 7, L + 6, L + 5, L + 4, L + 3, L + 2]) (a := la) (l₂ := [lf, lk, l1, l2, lt, lp]))).mp hnd2)).1
      intro p hp he
      rw [hR] at hp
      have hp2 : p.1 ∈ List.map (fun p : Addr × Obj => p.1) _ := List.mem_map_of_mem (f := fun p : Addr × Obj => p.1) hp
      rw [he] at hp2
      exact hn hp2
    have hf1 : laidF ((([] : List (Int × Int)).length : Nat) : Int) (sel oneL ps ++ [0]) [] 0 = some ar1 := by rw [List.length_nil]; exact hLd.first
    have hDa : D6 ≠ la := Nat.ne_of_gt (hla6 (la, listOf (List.toArray []) 0) (by simp))
    have hne6 : ∀ p ∈ (D6, listOf (List.toArray x6) 0) :: R, p.1 ≠ la := by
      intro p hp
      rcases List.mem_cons.mp hp with rfl | hp
      · exact hDa
      · exact hRa p hp
    have hC := laid w ((D6, listOf (List.toArray x6) 0) :: R) la D6 [] x6 [] ar1 (sel oneL ps ++ [0]) 0 0 hne6 (.head _) ⟨rfl, fun k p h => (nomatch h)⟩ I6 hf1 h100
    refine' Does.use hC (by k_asm) (by k_asm) (by k_asm) N7 (by k_asm) (by first | exact rfl | assumption) (by ktr_room) (by ktr_units) ?_
    clear hC
    rintro _ _ h7 tk7 F7 N8 ⟨rfl, va1, na1, add1, rfl, hA1, hadd1⟩
    clear lF N7
    obtain ⟨R2, hR2⟩ : ∃ R2, R2 = add1 ++ (D6, listOf (List.toArray x6) 0) :: R := ⟨_, rfl⟩
    rw [← hR2] at N8 hA1
    have hc5 : (L + 5, o₅) ∈ (la, listOf va1.toArray na1) :: R2 := by
      refine .tail _ ?_
      rw [hR2, hR]
      exact List.mem_append_right _ (by simp)
    have hne2 : ∀ p ∈ R2, p.1 ≠ la := by
      intro p hp
      rw [hR2] at hp
      rcases List.mem_append.mp hp with hp | hp
      · exact Nat.ne_of_gt (hadd1 p hp).1
      · exact hne6 p hp
    have hlk2 : (lk, listOf (List.toArray vk) nk) ∈ R2 := by
      rw [hR2, hR]
      exact List.mem_append_right _ (by simp)
    k_steps
    refine Hold.mk ?_
    rename Fr _ _ _ _ => lF
    have hC := laid w R2 la lk va1 vk ar1 ar pk na1 nk hne2 hlk2 hA1 hIk hLd.second hfit
    refine' Does.use hC (by k_asm) (by k_asm) (by k_asm) N8 (by k_asm) (by first | exact rfl | assumption) (by ktr_room) (by ktr_units) ?_
    clear hC
    rintro _ _ h9 tk9 F9 N9 ⟨rfl, va, na, add2, rfl, hA2, hadd2⟩
    dsimp only
    clear lF N8
    have hB : ∀ p ∈ [(L + 9, o₁), (L + 8, o₂), (L + 7, o₃), (L + 6, o₄), (L + 5, o₅), (L + 4, o₆), (L + 3, o₇), (L + 2, o₈), (la, listOf (List.toArray va) na), (lf, listOf (List.toArray []) 0),
      (lk, listOf (List.toArray vk) nk), (l1, listOf (List.toArray v1) n1), (l2, listOf (List.toArray v2) n2), (lt, listOf (List.toArray vt) nt), (lp, listOf (List.toArray vp) np)], p = (la, listOf (List.toArray va) na) ∨ p ∈ R := by
      rw [hR]
      repeat (refine List.forall_mem_cons.mpr ⟨by first | exact .inr (by k_mem) | exact .inl rfl, ?_⟩)
      exact List.forall_mem_nil _
    have hRD : ∀ p ∈ R, p.1 < D6 := by
      rw [hR]
      repeat (refine List.forall_mem_cons.mpr ⟨hla6 _ (by k_mem), ?_⟩)
      exact List.forall_mem_nil _
    have hlaD : la < D6 := hla6 (la, listOf (List.toArray []) 0) (by simp)
    have hRR : ∀ p ∈ R, p ∈ R2 := fun p hp => by rw [hR2]; exact List.mem_append_right _ (.tail _ hp)
    obtain ⟨add, hadd⟩ : ∃ add, add = add2 ++ (add1 ++ [(D6, listOf (List.toArray x6) 0)]) := ⟨_, rfl⟩
    have hin : ∀ p ∈ add2 ++ R2, p ∈ add ∨ p ∈ R := by
      intro p hp
      rw [hadd]
      rcases List.mem_append.mp hp with hp | hp
      · exact .inl (List.mem_append_left _ hp)
      · rw [hR2] at hp
        rcases List.mem_append.mp hp with hp | hp
        · exact .inl (List.mem_append_right _ (List.mem_append_left _ hp))
        · rcases List.mem_cons.mp hp with rfl | hp
          · exact .inl (List.mem_append_right _ (List.mem_append_right _ (.head _)))
          · exact .inr hp
    have hout : ∀ p ∈ add, p ∈ add2 ++ R2 := by
      intro p hp
      rw [hadd] at hp
      rw [hR2]
      rcases List.mem_append.mp hp with hp | hp
      · exact List.mem_append_left _ hp
      · rcases List.mem_append.mp hp with hp | hp
        · exact List.mem_append_right _ (List.mem_append_left _ hp)
        · rw [List.mem_singleton.mp hp]; exact List.mem_append_right _ (List.mem_append_right _ (.head _))
    have hbig : ∀ p ∈ add, la < p.1 ∧ ∀ q ∈ R, q.1 < p.1 := by
      intro p hp
      rw [hadd] at hp
      rcases List.mem_append.mp hp with hp | hp
      · exact ⟨(hadd2 p hp).1, fun q hq => (hadd2 p hp).2 q (hRR q hq)⟩
      · rcases List.mem_append.mp hp with hp | hp
        · exact ⟨(hadd1 p hp).1, fun q hq => (hadd1 p hp).2 q (.tail _ hq)⟩
        · rw [List.mem_singleton.mp hp]; exact ⟨hlaD, hRD⟩
    refine AtLaw.use H B F9 X (news := [(L + 9, o₁), (L + 8, o₂), (L + 7, o₃), (L + 6, o₄), (L + 5, o₅), (L + 4, o₆), (L + 3, o₇), (L + 2, o₈), (la, listOf (List.toArray va) na), (lf, listOf (List.toArray []) 0),
      (lk, listOf (List.toArray vk) nk), (l1, listOf (List.toArray v1) n1), (l2, listOf (List.toArray v2) n2), (lt, listOf (List.toArray vt) nt), (lp, listOf (List.toArray vp) np)] ++ add) ?n T hd hu
      ⟨o₁, o₂, o₃, o₄, o₅, o₆, o₇, o₈, la, va, na, lf, lk, vk, nk, l1, v1, n1, l2, v2, n2, lt, vt, nt, lp, vp, np, ps, Tx, pk, ar1, ar, t0, add, rfl, d₁, d₂, d₃, d₄, d₅, d₆, d₇, d₈, ?har, hIk, hI1, hI2, hIt, hI, hD, hLd, rfl, rfl, rfl, hnd2, ?hadd⟩ hE ?ret
    case n =>
      intro p hp
      refine N9 p ?_
      rcases List.mem_append.mp hp with hp | hp
      · rcases hB p hp with rfl | hp
        · exact .head _
        · exact .tail _ (List.mem_append_right _ (hRR p hp))
      · exact .tail _ (hout p hp)
    case har =>
      refine hA2.mono fun p hp => ?_
      rcases hin p hp with hp | hp
      · exact List.mem_append_right _ hp
      · refine List.mem_append_left _ ?_
        exact (show ∀ p ∈ R, p ∈ _ by
          rw [hR]
          repeat (refine List.forall_mem_cons.mpr ⟨by k_mem, ?_⟩)
          exact List.forall_mem_nil _) p hp
    case hadd =>
      intro p hp q hq
      have hq2 : q ∈ List.map (fun p => p.1) [(L + 9, o₁), (L + 8, o₂), (L + 7, o₃), (L + 6, o₄), (L + 5, o₅), (L + 4, o₆), (L + 3, o₇), (L + 2, o₈), (la, listOf (List.toArray va) na), (lf, listOf (List.toArray []) 0),
        (lk, listOf (List.toArray vk) nk), (l1, listOf (List.toArray v1) n1), (l2, listOf (List.toArray v2) n2), (lt, listOf (List.toArray vt) nt), (lp, listOf (List.toArray vp) np)] := hq
      obtain ⟨x, hx, rfl⟩ := List.mem_map.mp hq2
      rcases hB x hx with rfl | hx
      · exact (hbig p hp).1
      · exact (hbig p hp).2 x hx
    case ret => exact fun h' m' tk' F' => hret h' m' tk' F'
def bodyS : { x : List Stmt // ∃ t it oe pos rest, lawS.1.2.1.drop 9 = .For t it x oe pos :: rest } := ⟨_, _, _, _, _, _, rfl⟩
/-- from such a state on, the loop's body ends in such a state -/
def AtB (w : World) (stmts : List Stmt) (P P' : Addr → (Str → Option Value) → List (Addr × Obj) → Prop) : Prop :=
  ∀ (loose : List Str) (mean : ExcName → Option Value) (mg mb : Str → Option Value) (dp un : Nat) (gd : Option (List Code)) (L a : Addr) (ccd : Value) (outer : List Env) (A₀ : Around) (base h₀ : Heap) (m : Str → Option Value) (s : Shared)
    (Q : Flow → Shared → Prop) (E : Value → Shared → Prop) (news : List (Addr × Obj)),
    Below A₀ base outer h₀ → Fr h₀ L s.heap m → (Mine.hd.heap_39 w.params).In h₀ → News h₀ L s.heap news → Top Mine.hd.view_39 loose mean mg mb h₀ → dp + 20 < recursionLimit → un + 8 * 20 < cLine → P L m news → PassesOwn (model PySem.Challenge.rw_sn0035_01.row.prog w) (ktrTop dp un gd lawS.1.1 lawS.1.2.2 L a ccd (lawCl L) outer) (lawEnv L a ccd) E →
    (∀ h' m' tk' news', Fr h₀ L h' m' → News h₀ L h' news' → P' L m' news' → Q .next { s with heap := h', toks := tk' }) →
    wpAny (model PySem.Challenge.rw_sn0035_01.row.prog w) (ktrTop dp un gd lawS.1.1 lawS.1.2.2 L a ccd (lawCl L) outer) (execs stmts (lawEnv L a ccd)) Q E s
theorem AtB.use {w : World} {stmts : List Stmt} {P P' : Addr → (Str → Option Value) → List (Addr × Obj) → Prop} (D : AtB w stmts P P')
    {loose : List Str} {mean : ExcName → Option Value} {mg mb : Str → Option Value} {dp un : Nat} {gd : Option (List Code)} {L a : Addr} {ccd : Value} {outer : List Env} {A₀ : Around} {base h₀ : Heap} {m : Str → Option Value} {s : Shared}
    {Q : Flow → Shared → Prop} {E : Value → Shared → Prop} {news : List (Addr × Obj)}
    (B : Below A₀ base outer h₀) (F : Fr h₀ L s.heap m) (X : (Mine.hd.heap_39 w.params).In h₀) (N : News h₀ L s.heap news) (T : Top Mine.hd.view_39 loose mean mg mb h₀) (hd : dp + 20 < recursionLimit) (hu : un + 8 * 20 < cLine) (hp : P L m news) (hE : PassesOwn (model PySem.Challenge.rw_sn0035_01.row.prog w) (ktrTop dp un gd lawS.1.1 lawS.1.2.2 L a ccd (lawCl L) outer) (lawEnv L a ccd) E)
    (ret : ∀ h' m' tk' news', Fr h₀ L h' m' → News h₀ L h' news' → P' L m' news' → Q .next { s with heap := h', toks := tk' }) :
    wpAny (model PySem.Challenge.rw_sn0035_01.row.prog w) (ktrTop dp un gd lawS.1.1 lawS.1.2.2 L a ccd (lawCl L) outer) (execs stmts (lawEnv L a ccd)) Q E s := D _ _ _ _ _ _ _ _ _ _ _ _ _ _ _ _ _ _ _ B F X N T hd hu hp hE ret
/-- what does not change while the ends are looked at -/
structure Known where
  (la lf lk l1 l2 lt lp : Addr) (va vk v1 v2 vt vp : List Value) (na nk n1 n2 nt np : Nat) (o5 o4 o3 o2 : Obj) (ar : List (Int × Int)) (T pk ps : List Int)
structure Rd (L : Addr) (K : Known) (R : List (Addr × Obj)) : Prop where
  r9 : ∀ p ∈ R, p.1 ≠ L + 9
  r8 : ∀ p ∈ R, p.1 ≠ L + 8
  r7 : ∀ p ∈ R, p.1 ≠ L + 7
  r6 : ∀ p ∈ R, p.1 ≠ L + 6
  rf : ∀ p ∈ R, p.1 ≠ K.lf
  c5 : (L + 5, K.o5) ∈ R
  c4 : (L + 4, K.o4) ∈ R
  c3 : (L + 3, K.o3) ∈ R
  c2 : (L + 2, K.o2) ∈ R
  d5 : K.o5.data = .cell (some (.ref K.la))
  d4 : K.o4.data = .cell (some (.ref K.l2))
  d3 : K.o3.data = .cell (some (.ref K.l1))
  d2 : K.o2.data = .cell (some (.ref K.lt))
  ma : (K.la, listOf K.va.toArray K.na) ∈ R
  mq : (K.lk, listOf K.vk.toArray K.nk) ∈ R
  m1 : (K.l1, listOf K.v1.toArray K.n1) ∈ R
  m2 : (K.l2, listOf K.v2.toArray K.n2) ∈ R
  mt : (K.lt, listOf K.vt.toArray K.nt) ∈ R
  mp : (K.lp, listOf K.vp.toArray K.np) ∈ R
  ar : ArAre R K.va K.ar
  ik : IntsAre K.vk K.pk
  i1 : IntsAre K.v1 oneL
  i2 : IntsAre K.v2 twoL
  it : IntsAre K.vt K.T
  ip : IntsAre K.vp K.ps
  fit : K.ar.length < 100
  short : K.T.length ≤ 20
  letters : ∀ p ∈ K.T, 0 ≤ p ∧ p < 3
  f9 : @Ne Nat K.lf (L + 9)
  f8 : @Ne Nat K.lf (L + 8)
  f7 : @Ne Nat K.lf (L + 7)
  f6 : @Ne Nat K.lf (L + 6)
theorem Rd.cons {L : Addr} {K : Known} {R : List (Addr × Obj)} (h : Rd L K R) {D : Addr} {o : Obj} (h9 : @Ne Nat D (L + 9)) (h8 : @Ne Nat D (L + 8)) (h7 : @Ne Nat D (L + 7)) (h6 : @Ne Nat D (L + 6)) (hf : @Ne Nat D K.lf) : Rd L K ((D, o) :: R) :=
  have st : ∀ {a : Addr}, @Ne Nat D a → (∀ p ∈ R, p.1 ≠ a) → ∀ p ∈ (D, o) :: R, p.1 ≠ a := fun q r p hp => by
    rcases List.mem_cons.mp hp with rfl | hp
    · exact q
    · exact r p hp
  ⟨st h9 h.r9, st h8 h.r8, st h7 h.r7, st h6 h.r6, st hf h.rf, .tail _ h.c5, .tail _ h.c4, .tail _ h.c3, .tail _ h.c2, h.d5, h.d4, h.d3, h.d2, .tail _ h.ma, .tail _ h.mq, .tail _ h.m1, .tail _ h.m2, .tail _ h.mt, .tail _ h.mp, h.ar.mono fun p hp => .tail _ hp,
    h.ik, h.i1, h.i2, h.it, h.ip, h.fit, h.short, h.letters, h.f9, h.f8, h.f7, h.f6⟩
/-- at the body's first statement -/
def PB0 (K : Known) (R : List (Addr × Obj)) (first last : Nat) (fs : List Bool) (L : Addr) (m : Str → Option Value) (news : List (Addr × Obj)) : Prop :=
  ∃ o₁ o₂ o₃ o₄ fv fn v1 v2 v3 t4 tl, news = (L + 9, o₁) :: (L + 8, o₂) :: (L + 7, o₃) :: (L + 6, o₄) :: (K.lf, listOf (List.toArray fv) fn) :: R ∧ Rd L K R ∧
    o₁.data = .cell v1 ∧ o₂.data = .cell v2 ∧ o₃.data = .cell v3 ∧ o₄.data = .cell (some (.int (first : Nat) t4)) ∧ LSm.BoolsAre fv fs ∧
    m (Str.ofString "picks") = some (.ref K.lp) ∧ m (Str.ofString "packed") = some (.ref K.lk) ∧ m (Str.ofString "fresh") = some (.ref K.lf) ∧ m (Str.ofString "last") = some (.int (last : Nat) tl)
/-- starts and signs are laid -/
def PB1 (K : Known) (R : List (Addr × Obj)) (first last : Nat) (fs : List Bool) (L : Addr) (m : Str → Option Value) (news : List (Addr × Obj)) : Prop :=
  ∃ o₁ o₂ o₃ o₄ fv fn v1 t4 tl ls us ns, news = (L + 9, o₁) :: (L + 8, o₂) :: (L + 7, o₃) :: (L + 6, o₄) :: (K.lf, listOf (List.toArray fv) fn) :: (ls, listOf (List.toArray us) ns) :: R ∧ Rd L K R ∧ Rd L K ((ls, listOf (List.toArray us) ns) :: R) ∧
    o₁.data = .cell v1 ∧ o₂.data = .cell (some (.ref (if fs.isEmpty then K.l1 else K.l2))) ∧ o₃.data = .cell (some (.ref ls)) ∧ o₄.data = .cell (some (.int (first : Nat) t4)) ∧ LSm.BoolsAre fv fs ∧
    IntsAre us (((K.ar.take last).drop first).map (·.1)) ∧
    m (Str.ofString "picks") = some (.ref K.lp) ∧ m (Str.ofString "packed") = some (.ref K.lk) ∧ m (Str.ofString "fresh") = some (.ref K.lf) ∧ m (Str.ofString "last") = some (.int (last : Nat) tl)
section
variable {prog : Program} {w : World} {A : Around} {E : Value → Shared → Prop} {s : Shared} {h₀ : Heap} {L l : Addr}
theorem m_entryR {value slice : PySem.Expr} {news R : List (Addr × Obj)} {us : List Value} {ar : List (Int × Int)} {n : Nat} {k : Int} {u : Tok} {Q : Value → Shared → Prop} (N : News h₀ L s.heap news) (hm : (l, listOf us.toArray n) ∈ news) (hd : ArAre R us ar)
    (h0 : 0 ≤ k) (h1 : k < (ar.length : Int)) (hfit : ar.length < 1000) (h : ∀ a t1 t2 n, (a, tup2 (ar.getD k.toNat (0, 0)).1 (ar.getD k.toNat (0, 0)).2 t1 t2 n) ∈ R → Q (.ref a) s)
    (hs : subscripted slice false (.ref l) (.int k u) = operate [.ref l, .int k u] (getItem (.ref l) (.int k u))) :
    wpAny (model prog w) A (subscriptTail value slice (.ref l) (.int k u)) Q E s := by
  have hl : s.heap.IsList l us.toArray := ⟨_, (N _ hm).1, rfl, n, rfl⟩
  have hk : k.toNat < ar.length := by omega
  obtain ⟨a, t1, t2, n', ht, hm'⟩ := hd.get k.toNat ar[k.toNat] (List.getElem?_eq_getElem hk)
  have hl2 := hd.len
  refine tail_any hl.typeIs slot_list_getitem.lookup (wpAny_getItem_list hl h0 (by omega) (by simpa using ht) ?_) hs
  have := h a t1 t2 n'
  rw [List.getD_eq_getElem?_getD, List.getElem?_eq_getElem hk] at this
  exact this hm'
end
theorem sl_take {l : List Int} {i : Nat} (h : i < l.length) : l.take (i + 1) = l.take i ++ [l.getD i 0] := by
  rw [List.take_add_one, List.getElem?_eq_getElem h, List.getD_eq_getElem?_getD, List.getElem?_eq_getElem h]
  rfl
theorem pick_nat (l : List Value) (a b : Nat) : kms_pick l (some (a : Int)) (some (b : Int)) = (l.take b).drop a := by
  unfold kms_pick kms_lo kms_hi
  simp only [List.drop_take]
  by_cases ha : a ≤ l.length
  · have e1 : (if (a : Int) < 0 then l.length - (-(a : Int)).toNat else min (a : Int).toNat l.length) = a := by rw [if_neg (by omega)]; omega
    by_cases hb : b ≤ l.length
    · have e2 : (if (b : Int) < 0 then l.length - (-(b : Int)).toNat else min (b : Int).toNat l.length) = b := by rw [if_neg (by omega)]; omega
      rw [e1, e2]
    · have e2 : (if (b : Int) < 0 then l.length - (-(b : Int)).toNat else min (b : Int).toNat l.length) = l.length := by rw [if_neg (by omega)]; omega
      rw [e1, e2, List.take_of_length_le (by rw [List.length_drop]; exact Nat.le_refl _), List.take_of_length_le (by rw [List.length_drop]; omega)]
  · rw [List.drop_of_length_le (l := l) (i := a) (by omega), List.drop_of_length_le (l := l) (by rw [if_neg (by omega)]; omega)]
    simp
theorem sl_get {vs : List Value} {ar : List (Int × Int)} {R : List (Addr × Obj)} (h : ArAre R vs ar) {first last i : Nat} (hl : last ≤ ar.length) (hi : first + i < last) {v : Value} (hv : ((vs.take last).drop first)[i]? = some v) :
    ∃ a t1 t2 n p, v = .ref a ∧ (a, tup2 p.1 p.2 t1 t2 n) ∈ R ∧ ((ar.take last).drop first)[i]? = some p ∧ ar[first + i]? = some p := by
  rw [List.getElem?_drop, List.getElem?_take_of_lt hi] at hv
  obtain ⟨a, t1, t2, n, e, hm⟩ := h.get (first + i) (ar[first + i]'(by omega)) (List.getElem?_eq_getElem _)
  rw [e] at hv
  refine ⟨a, t1, t2, n, _, (Option.some.inj hv).symm, hm, ?_, List.getElem?_eq_getElem _⟩
  rw [List.getElem?_drop, List.getElem?_take_of_lt hi]
  exact List.getElem?_eq_getElem _
theorem segB0 (w : World) (K : Known) (R : List (Addr × Obj)) (first last : Nat) (fs : List Bool) (P' : Addr → (Str → Option Value) → List (Addr × Obj) → Prop) (h1 : first ≤ last) (h2 : last < K.ar.length) (hfs : fs.length < 9)
    (H : AtB w (bodyS.1.drop 1) (PB1 K R first last fs) P') : AtB w bodyS.1 (PB0 K R first last fs) P' := by
  dsimp only [AtB, lawS, lawEnv, bodyS]
  k_fill
  intro loose mean mg mb dp un gd L a ccd outer A₀ base h₀ m s Q E news B F X N T hd hu hp hE hret
  obtain ⟨o₁, o₂, o₃, o₄, fv, fn, v1, v2, v3, t4, tl, rfl, hR, d₁, d₂, d₃, d₄, hfb, hm1, hm2, hm3, hm4⟩ := hp
  have hm' : ∀ p ∈ [(Str.ofString "picks", Value.ref K.lp), (Str.ofString "packed", Value.ref K.lk), (Str.ofString "fresh", Value.ref K.lf), (Str.ofString "last", Value.int (last : Nat) tl)], m p.1 = some p.2 := by
    intro p hp
    rcases List.mem_cons.mp hp with rfl | hp
    · exact hm1
    · rcases List.mem_cons.mp hp with rfl | hp
      · exact hm2
      · rcases List.mem_cons.mp hp with rfl | hp
        · exact hm3
        · rw [List.mem_singleton.mp hp]; exact hm4
  rw [← kst_self hm'] at F
  dsimp only [kstB] at F
  clear hm' hm1 hm2 hm3 hm4
  have hR0 := hR
  obtain ⟨r9, r8, r7, r6, rf, c5, c4, c3, c2, e5, e4, e3, e2, ma, mk, m1, m2, mt, mp, har, ik, i1, i2, it, ip, fit, short, letters, f9, f8, f7, f6⟩ := hR
  k_with_none
  (k_with "eval ListComp" => (refine Hold.out ?_))
  (k_with "CompSrc" => (refine Hold.out ?_))
  (k_with "CompEnd" => (refine Hold.out ?_))
  (k_with "truthy ref" => (refine Hold.out ?_))
  (k_with "subscriptTail Name Slice ref ref" => (refine Hold.out ?_))
  k_steps
  refine Hold.mk ?_
  rename Fr _ _ _ _ => lF
  rename News _ _ _ _ => lN
  refine' LCg.ListComp_U (F₀ := lF) ?b1 ?b2 ?b3 ?b4 ?b5 ?b6 ?b7
  case b1 => with_unfolding_all rfl
  case b2 => decide
  case b3 => rfl
  case b4 => decide
  case b5 => rfl
  case b7 => intro _; rfl
  k_steps
  refine Hold.mk ?_
  have hvl := har.len
  refine' kms_slice_lit lF lN ⟨_, (lN (K.la, listOf K.va.toArray K.na) (.tail _ (.tail _ (.tail _ (.tail _ (.tail _ ma)))))).1, rfl, _, rfl⟩ (.int _ _) (.int _ _) (pick_nat _ _ _) ?_ ?s ?t ?z
  case s => with_unfolding_all rfl
  case t => kmk_pure
  case z => rw [List.size_toArray, sizeLine_eq]; omega
  intro Da h1 F1 N1 l1
  (try k_lt l1)
  clear lF lN
  k_steps
  refine Hold.mk ?_
  rename Fr _ _ _ _ => lF2
  rename News _ _ _ _ => lN2
  have hsz : ((K.va.take last).drop first).toArray.size = last - first := by
    rw [List.size_toArray, List.length_drop, List.length_take]; omega
  refine LCg.CompSrc.ledger (its := ((K.va.take last).drop first).toArray) (k := 0) rfl lF2 lN2 ?sm ?ss ?_
  case sm => exact .head _
  case ss => rw [hsz, sizeLine_eq]; omega
  intro g2
  refine comp_inv (fun i ys nx => nx = _ ∧ IntsAre ys ((((K.ar.take last).drop first).map (·.1)).take i)) ?turn ?done _ 0 [] _ (Nat.zero_add _) ⟨rfl, .nil⟩
  case turn =>
    clear lF2 lN2
    rintro i ys nx hi ⟨rfl, hys⟩ v I oI C oC D m₂ h tk E' hv hC hx F' N' off ne
    rw [hsz] at hi
    rw [List.getElem?_toArray] at hv
    obtain ⟨a, t1, t2, n, p, rfl, hm, hp, _⟩ := sl_get har (by omega) (by omega) hv
    k_steps
    refine Hold.mk ?_
    refine LCg.CompEnd.intro F' N' _ (fun p hp => hp) off (.inr ⟨_, .head _, rfl, 0, rfl⟩) ⟨rfl, ?si⟩
    case si =>
      rw [List.take_add_one, List.getElem?_map, hp]
      exact hys.append (.cons _ _ .nil)
  case done =>
    clear lF2 lN2
    rintro ys nx ⟨rfl, hys⟩
    rw [hsz] at hys
    unfold LCg.FinE
    intro D3 h tk F' N' off
    dsimp only [LCg.Off1] at off
    k_steps
    refine Hold.mk ?_
    rename Fr _ _ _ _ => lF
    rename News _ _ _ _ => lN
    refine kgr_truthy lN (.tail _ (.tail _ (.tail _ (.tail _ (.tail _ (.tail _ (.head _))))))) rfl rfl ?_ ?_
    · rw [hfb.length]; omega
    have efv : (!fv.isEmpty) = !fs.isEmpty := by
      have := hfb.length
      cases fv <;> cases fs <;> simp_all
    rw [efv]
    (k_with "execs cons" => ((with_reducible show wpAny _ _ (execs (Stmt.Assign [Expr.Name _ _] _ _ :: _) _) _ _ _); refine Hold.out ?_))
    cases hfe : fs.isEmpty
    all_goals
      dsimp only [Bool.not_true, Bool.not_false]
      k_steps
      refine Hold.mk ?_
      rename Fr _ _ _ _ => lF3
      rename News _ _ _ _ => lN3
      rename_i Dt _ _ h9 _ _ _ dst _ osg dsg
      refine AtB.use H B lF3 X (news := (L + 9, o₁) :: (L + 8, osg) :: (L + 7, _) :: (L + 6, o₄) :: (K.lf, listOf (List.toArray fv) fn) :: (D3, listOf (List.toArray ys) ys.length) :: R) ?_ T hd hu
        ⟨o₁, osg, _, o₄, fv, fn, v1, t4, tl, D3, ys, ys.length, rfl, hR0, ?_, d₁, ?_, dst, d₄, hfb, ?_, rfl, rfl, rfl, rfl⟩ hE ?_
      · intro p hp
        refine lN3 p ?_
        simp only [List.mem_cons] at hp
        rcases hp with rfl | rfl | rfl | rfl | rfl | rfl | hp
        all_goals k_mem
      · obtain ⟨-, q1, q2, q3, q4, q5, -⟩ := off
        exact hR0.cons (Ne.symm q1) (Ne.symm q2) (Ne.symm q3) (Ne.symm q4) (Ne.symm q5)
      · rw [hfe]; exact dsg
      · rw [List.take_of_length_le (by rw [List.length_map, List.length_drop, List.length_take]; omega)] at hys
        exact hys
      · exact hret
local macro_rules | `(tactic| walk_at "subscriptTail") => `(tactic| (k_here; (with_reducible show wpAny _ _ (subscriptTail _ _ (Value.ref _) (Value.int _ _)) _ _ _); (first
  | ((with_reducible refine' m_item ?k1 ?k2 ?k3 ?k4 ?k5 ?k6 ?_ ?k7); ((case k1 => k_asm); (case k2 => k_mem); (case k3 => assumption); (case k4 => omega); (case k5 => omega); (case k6 => omega); (case k7 => with_unfolding_all rfl)); intro t')
  | ((with_reducible refine' m_entryR ?k1 ?k2 ?k3 ?k4 ?k5 ?k6 ?_ ?k7); ((case k1 => k_asm); (case k2 => k_mem); (case k3 => assumption); (case k4 => omega); (case k5 => omega); (case k6 => omega); (case k7 => with_unfolding_all rfl)); intro ta' tt1' tt2' tn' hent')
  | ((with_reducible refine' m_entry ?k1 ?k2 ?k3 ?k4 ?k5 ?k6 ?_ ?k7); ((case k1 => k_asm); (case k2 => k_mem); (case k3 => assumption); (case k4 => omega); (case k5 => omega); (case k6 => omega); (case k7 => with_unfolding_all rfl)); intro ta' tt1' tt2' tn' hent')
  | ((with_reducible refine' m_tup0 ?k1 ?k2 ?_ ?k7); (case k1 => k_asm); (case k2 => k_mem); (case k7 => with_unfolding_all rfl))
  | ((with_reducible refine' m_tup1 ?k1 ?k2 ?_ ?k7); (case k1 => k_asm); (case k2 => k_mem); (case k7 => with_unfolding_all rfl)))))
local macro_rules | `(tactic| walk_at "one rule more") => `(tactic| fail "no rule")
theorem segB1 (w : World) (K : Known) (R : List (Addr × Obj)) (first last : Nat) (fs : List Bool) (P' : Addr → (Str → Option Value) → List (Addr × Obj) → Prop) (h1 : first ≤ last) (h2 : last < K.ar.length)
    (V : Valid K.ar first last (fun i => (sel (if fs.isEmpty then oneL else twoL) K.T).getD i.toNat 0)) (hpl : Pl K.ar last = K.T.length)
    (H : AtB w (bodyS.1.drop 3) (PB0 K R first last fs) P') : AtB w (bodyS.1.drop 1) (PB1 K R first last fs) P' := by
  dsimp only [AtB, lawS, lawEnv, bodyS, List.drop]
  k_fill
  intro loose mean mg mb dp un gd L a ccd outer A₀ base h₀ m s Q E news B F X N T hd hu hp hE hret
  obtain ⟨o₁, o₂, o₃, o₄, fv, fn, v1, t4, tl, ls, us, ns, rfl, hR0, hR, d₁, d₂, d₃, d₄, hfb, hus, hm1, hm2, hm3, hm4⟩ := hp
  have hm' : ∀ p ∈ [(Str.ofString "picks", Value.ref K.lp), (Str.ofString "packed", Value.ref K.lk), (Str.ofString "fresh", Value.ref K.lf), (Str.ofString "last", Value.int (last : Nat) tl)], m p.1 = some p.2 := by
    intro p hp
    rcases List.mem_cons.mp hp with rfl | hp
    · exact hm1
    · rcases List.mem_cons.mp hp with rfl | hp
      · exact hm2
      · rcases List.mem_cons.mp hp with rfl | hp
        · exact hm3
        · rw [List.mem_singleton.mp hp]; exact hm4
  rw [← kst_self hm'] at F
  dsimp only [kstB] at F
  clear hm' hm1 hm2 hm3 hm4
  obtain ⟨R1, hR1⟩ : ∃ R1, R1 = (ls, listOf (List.toArray us) ns) :: R := ⟨_, rfl⟩
  have mls : (ls, listOf (List.toArray us) ns) ∈ R1 := by rw [hR1]; exact .head _
  rw [← hR1] at hR N
  obtain ⟨r9, r8, r7, r6, rf, c5, c4, c3, c2, e5, e4, e3, e2, ma, mk, m1, m2, mt, mp, har, ik, i1, i2, it, ip, fit, short, letters, f9, f8, f7, f6⟩ := hR
  obtain ⟨sgA, sgV, sgN, sgL, hsm, hsi, hsd, hsL, hs7⟩ : ∃ sgA sgV sgN sgL, (sgA, listOf (List.toArray sgV) sgN) ∈ R1 ∧ IntsAre sgV sgL ∧ o₂.data = .cell (some (.ref sgA)) ∧ (if fs.isEmpty then oneL else twoL) = sgL ∧ (sgL.length : Int) = 7 := by
    cases hfe : fs.isEmpty
    · rw [hfe] at d₂
      exact ⟨K.l2, K.v2, K.n2, twoL, m2, i2, d₂, rfl, rfl⟩
    · rw [hfe] at d₂
      exact ⟨K.l1, K.v1, K.n1, oneL, m1, i1, d₂, rfl, rfl⟩
  clear d₂
  rw [hsL] at V
  have hsl : (sel sgL K.T).length = K.T.length := by unfold sel; rw [List.length_map]
  k_with_none
  (k_with "exec Assign cons ListComp" => (refine Hold.out ?_))
  (k_with "eval ListComp" => (refine Hold.out ?_))
  (k_with "CompSrc" => (refine Hold.out ?_))
  (k_with "CompEnd" => (refine Hold.out ?_))
  (k_with "call ref" => (refine Hold.out ?_))
  (k_with "compareOp NotEq ref ref" => (refine Hold.out ?_))
  k_steps
  refine Hold.mk ?_
  rename Fr _ _ _ _ => lF
  rename News _ _ _ _ => lN
  refine' LCg.Assign_ListComp_U (F₀ := lF) ?a1 ?a2 ?a3 ?a4 ?a5 ?a6 ?a7 ?a8 ?a9 ?a10 ?a11
  case a1 => rfl
  case a2 => with_unfolding_all rfl
  case a3 => with_unfolding_all rfl
  case a4 => decide
  case a5 => rfl
  case a6 => decide
  case a7 => rfl
  case a8 => rfl
  case a9 => rfl
  case a11 => intro _; rfl
  k_steps
  refine Hold.mk ?_
  rename Fr _ _ _ _ => lF2
  rename News _ _ _ _ => lN2
  have hx1 : (K.ar.getD (last : Int).toNat (0, 0)).1 = (K.T.length : Int) := hpl
  have hns : ((K.ar.getD (last : Int).toNat (0, 0)).1 - 0).toNat = K.T.length := by rw [hx1]; omega
  refine LCg.CompSrc.range (n := K.T.length) rfl lF2 lN2 (by assumption) (small_one (by omega) (by omega) (by omega) (by omega)) (by rw [rangeSize_nat, hns]) (by rw [sizeLine_eq]; omega) ?_
  intro g'
  refine comp_inv (fun i ys nx => nx = _ ∧ IntsAre ys ((sel sgL K.T).take i)) ?turn ?done _ 0 [] _ (Nat.zero_add _) ⟨rfl, .nil⟩
  case turn =>
    clear lF2 lN2
    rintro i ys nx hi ⟨rfl, hys⟩ v I oI C oC D m₂ h tk E' ⟨t, rfl⟩ hC hx F' N' off ne
    rw [Int.zero_add] at hx
    k_steps
    refine Hold.mk ?_
    rename News _ _ _ _ => lN
    have hlt : (i : Int) < Pl K.ar last := by rw [hpl]; omega
    refine' Does.use (letter w _ K.la ls K.va us K.ar K.na ns first last _ (i : Int) _ _ (.tail _ (.tail _ (.tail _ (.tail _ (.tail _ (.tail _ (.tail _ (.tail _ ma)))))))) (.tail _ (.tail _ (.tail _ (.tail _ (.tail _ (.tail _ (.tail _ (.tail _ mls)))))))) (har.mono fun p hp => .tail _ (.tail _ (.tail _ (.tail _ (.tail _ (.tail _ (.tail _ (.tail _ hp)))))))) hus fit V (by omega) hlt) (by k_asm) (by k_asm) (by k_asm) lN (by k_asm) (by first | exact rfl | assumption) (by ktr_room) (by ktr_units) ?_
    rintro r news' h9 tk9 F9 N9 ⟨rfl, t5, rfl⟩
    refine LCg.CompEnd.intro F9 N9 _ (fun p hp => hp) off trivial ⟨rfl, ?si⟩
    case si =>
      rw [sl_take (by omega)]
      exact hys.append (.cons _ _ .nil)
  case done =>
    clear lF2 lN2
    rintro ys nx ⟨rfl, hys⟩
    rw [List.take_of_length_le (by omega)] at hys
    unfold LCg.FinA
    intro D3 h tk F' N' off
    dsimp only [LCg.Off1] at off
    k_steps
    refine Hold.mk ?_
    rename Fr _ _ _ _ => lF
    rename News _ _ _ _ => lN
    refine' LCg.ListComp_U (F₀ := lF) ?b1 ?b2 ?b3 ?b4 ?b5 ?b6 ?b7
    case b1 => with_unfolding_all rfl
    case b2 => decide
    case b3 => rfl
    case b4 => decide
    case b5 => rfl
    case b7 => intro _; rfl
    k_steps
    refine Hold.mk ?_
    rename Fr _ _ _ _ => lF2
    rename News _ _ _ _ => lN2
    refine LCg.CompSrc.ledger (its := K.vt.toArray) (k := K.nt) rfl lF2 lN2 ?sm ?ss ?_
    case sm => exact .tail _ (.tail _ (.tail _ (.tail _ (.tail _ (.tail _ mt)))))
    case ss => rw [List.size_toArray, it.length, sizeLine_eq]; omega
    intro g2
    refine comp_inv (fun i ys nx => nx = _ ∧ IntsAre ys (sel sgL (K.T.take i))) ?turn2 ?done2 _ 0 [] _ (Nat.zero_add _) ⟨rfl, .nil⟩
    case turn2 =>
      clear lF2 lN2
      rintro i ys2 nx hi ⟨rfl, hys2⟩ v I oI C oC D m₂ h tk E' hv hC hx F' N' off2 ne
      have hil : i < K.T.length := by rw [List.size_toArray, it.length] at hi; exact hi
      obtain ⟨p, hp⟩ : ∃ p, p = K.T[i]'hil := ⟨_, rfl⟩
      obtain ⟨tp, hvp⟩ := it.get i p (by rw [hp]; exact List.getElem?_eq_getElem hil)
      have hv' : v = .int p tp := by
        have hv2 : K.vt[i]? = some v := by simpa using hv
        rw [hvp] at hv2; exact (Option.some.inj hv2).symm
      subst hv'
      have hpl2 := letters p (by rw [hp]; exact List.getElem_mem hil)
      k_steps
      refine Hold.mk ?_
      refine LCg.CompEnd.intro F' N' _ (fun p hp => hp) off2 (.inr ⟨listOf K.vt.toArray K.nt, .tail _ (.tail _ (.tail _ (.tail _ (.tail _ (.tail _ mt))))), rfl, K.nt, rfl⟩) ⟨rfl, ?si2⟩
      case si2 => rw [sel_take hil, ← hp]; exact hys2.append (.cons _ _ .nil)
    case done2 =>
      clear lF2 lN2
      rintro ys2 nx ⟨rfl, hys2⟩
      rw [List.size_toArray, it.length, List.take_length] at hys2
      unfold LCg.FinE
      intro D4 h tk F' N' off2
      dsimp only [LCg.Off1] at off2
      k_steps
      refine Hold.mk ?_
      rename Fr _ _ _ _ => lF
      rename News _ _ _ _ => lN
      refine ke_ne_ints (lN.isList (.tail _ (.head _))) (lN.isList (.head _)) hys hys2 (by ke_room) ?_
      rw [decide_eq_true (rfl : sel sgL K.T = sel sgL K.T), Bool.not_true]
      (k_with "execs cons" => ((with_reducible show wpAny _ _ (execs (Stmt.Assign [Expr.Name _ _] _ _ :: _) _) _ _ _); refine Hold.out ?_))
      k_steps
      refine Hold.mk ?_
      refine AtB.use H B lF X (news := (L + 9, o₁) :: (L + 8, o₂) :: (L + 7, o₃) :: (L + 6, o₄) :: (K.lf, listOf (List.toArray fv) fn) :: R) ?_ T hd hu
        ⟨o₁, o₂, o₃, o₄, fv, fn, _, _, _, t4, tl, rfl, hR0, d₁, hsd, d₃, d₄, hfb, rfl, rfl, rfl, rfl⟩ hE ?_
      · intro p hp
        refine lN p ?_
        rw [hR1]
        simp only [List.mem_cons] at hp
        rcases hp with rfl | rfl | rfl | rfl | rfl | hp
        all_goals k_mem
      · exact hret
abbrev datL (l : List Int) : Dat := .list (l.map Dat.int)
/-- the k-th piece of the text, and the letter behind it -/
def entr (T : List Int) (ar : List (Int × Int)) (k : Nat) : List Int := (T.drop (Pl ar k).toNat).take (min (Pl ar (k + 1) + 1).toNat T.length - (Pl ar k).toNat)
def entsTo (T : List Int) (ar : List (Int × Int)) (first i : Nat) : List (List Int) := (List.range i).map fun j => entr T ar (first + j)
theorem entsTo_succ (T : List Int) (ar : List (Int × Int)) (first i : Nat) : entsTo T ar first (i + 1) = entsTo T ar first i ++ [entr T ar (first + i)] := by
  unfold entsTo
  rw [List.range_succ, List.map_append]; rfl
theorem dat_ints {news : List (Addr × Obj)} : ∀ {vs : List Value} {ns : List Int}, IntsAre vs ns → DatAll news vs (ns.map Dat.int)
  | _, _, .nil => .nil
  | _, _, .cons _ t r => .cons (.int _ t) (dat_ints r)
theorem datL_inj {a b : List Int} (h : datL a = datL b) : a = b := by
  have h1 : a.map Dat.int = b.map Dat.int := by injection h
  induction a generalizing b with
  | nil => cases b with
    | nil => rfl
    | cons => cases h1
  | cons x a ih => cases b with
    | nil => cases h1
    | cons y b =>
      simp only [List.map_cons, List.cons.injEq, Dat.int.injEq] at h1
      rw [h1.1, ih (congrArg Dat.list h1.2) h1.2]
/-- off the five that change -/
def Off5 (L lf : Addr) (R : List (Addr × Obj)) : Prop := (∀ p ∈ R, p.1 ≠ L + 9) ∧ (∀ p ∈ R, p.1 ≠ L + 8) ∧ (∀ p ∈ R, p.1 ≠ L + 7) ∧ (∀ p ∈ R, p.1 ≠ L + 6) ∧ ∀ p ∈ R, p.1 ≠ lf
theorem Off5.cons {L lf D : Addr} {o : Obj} {R : List (Addr × Obj)} (h : Off5 L lf R) (h9 : @Ne Nat (L + 9) D) (h8 : @Ne Nat (L + 8) D) (h7 : @Ne Nat (L + 7) D) (h6 : @Ne Nat (L + 6) D) (hf : @Ne Nat lf D) : Off5 L lf ((D, o) :: R) :=
  have st : ∀ {a : Addr}, @Ne Nat a D → (∀ p ∈ R, p.1 ≠ a) → ∀ p ∈ (D, o) :: R, p.1 ≠ a := fun q r p hp => by
    rcases List.mem_cons.mp hp with rfl | hp
    · exact Ne.symm q
    · exact r p hp
  ⟨st h9 h.1, st h8 h.2.1, st h7 h.2.2.1, st h6 h.2.2.2.1, st hf h.2.2.2.2⟩
theorem Rd.grow {L : Addr} {K : Known} {R Z : List (Addr × Obj)} (h : Rd L K R) (hs : ∀ p ∈ R, p ∈ Z) (ho : Off5 L K.lf Z) : Rd L K Z :=
  ⟨ho.1, ho.2.1, ho.2.2.1, ho.2.2.2.1, ho.2.2.2.2, hs _ h.c5, hs _ h.c4, hs _ h.c3, hs _ h.c2, h.d5, h.d4, h.d3, h.d2, hs _ h.ma, hs _ h.mq, hs _ h.m1, hs _ h.m2, hs _ h.mt, hs _ h.mp, h.ar.mono hs,
    h.ik, h.i1, h.i2, h.it, h.ip, h.fit, h.short, h.letters, h.f9, h.f8, h.f7, h.f6⟩
theorem Rd.off5 {L : Addr} {K : Known} {R : List (Addr × Obj)} (h : Rd L K R) : Off5 L K.lf R := ⟨h.r9, h.r8, h.r7, h.r6, h.rf⟩
/-- entered is made -/
def PB4 (K : Known) (R : List (Addr × Obj)) (first last : Nat) (fs : List Bool) (L : Addr) (m : Str → Option Value) (news : List (Addr × Obj)) : Prop :=
  ∃ o₁ o₂ o₃ o₄ fv fn v2 v3 t4 tl le es Z, news = (L + 9, o₁) :: (L + 8, o₂) :: (L + 7, o₃) :: (L + 6, o₄) :: (K.lf, listOf (List.toArray fv) fn) :: Z ∧ Rd L K R ∧ Rd L K Z ∧ (∀ p ∈ R, p ∈ Z) ∧
    o₁.data = .cell (some (.ref le)) ∧ o₂.data = .cell v2 ∧ o₃.data = .cell v3 ∧ o₄.data = .cell (some (.int (first : Nat) t4)) ∧ LSm.BoolsAre fv fs ∧
    (le, LCg.lst es) ∈ Z ∧ DatAll Z es ((entsTo K.T K.ar first (last - 1 - first)).map datL) ∧
    m (Str.ofString "picks") = some (.ref K.lp) ∧ m (Str.ofString "packed") = some (.ref K.lk) ∧ m (Str.ofString "fresh") = some (.ref K.lf) ∧ m (Str.ofString "last") = some (.int (last : Nat) tl)
theorem segB3 (w : World) (K : Known) (R : List (Addr × Obj)) (first last : Nat) (fs : List Bool) (P' : Addr → (Str → Option Value) → List (Addr × Obj) → Prop) (h1 : first < last) (h2 : last < K.ar.length)
    (hpos : ∀ k, first ≤ k → k ≤ last → 0 ≤ Pl K.ar k)
    (H : AtB w (bodyS.1.drop 4) (PB4 K R first last fs) P') : AtB w (bodyS.1.drop 3) (PB0 K R first last fs) P' := by
  dsimp only [AtB, lawS, lawEnv, bodyS, List.drop]
  k_fill
  intro loose mean mg mb dp un gd L a ccd outer A₀ base h₀ m s Q E news B F X N T hd hu hp hE hret
  obtain ⟨o₁, o₂, o₃, o₄, fv, fn, v1, v2, v3, t4, tl, rfl, hR, d₁, d₂, d₃, d₄, hfb, hm1, hm2, hm3, hm4⟩ := hp
  have hm' : ∀ p ∈ [(Str.ofString "picks", Value.ref K.lp), (Str.ofString "packed", Value.ref K.lk), (Str.ofString "fresh", Value.ref K.lf), (Str.ofString "last", Value.int (last : Nat) tl)], m p.1 = some p.2 := by
    intro p hp
    rcases List.mem_cons.mp hp with rfl | hp
    · exact hm1
    · rcases List.mem_cons.mp hp with rfl | hp
      · exact hm2
      · rcases List.mem_cons.mp hp with rfl | hp
        · exact hm3
        · rw [List.mem_singleton.mp hp]; exact hm4
  rw [← kst_self hm'] at F
  dsimp only [kstB] at F
  clear hm' hm1 hm2 hm3 hm4
  have hR0 := hR
  obtain ⟨r9, r8, r7, r6, rf, c5, c4, c3, c2, e5, e4, e3, e2, ma, mk, m1, m2, mt, mp, har, ik, i1, i2, it, ip, fit, short, letters, f9, f8, f7, f6⟩ := hR
  k_with_none
  (k_with "eval ListComp" => (refine Hold.out ?_))
  (k_with "CompSrc" => (refine Hold.out ?_))
  (k_with "CompEnd" => (refine Hold.out ?_))
  (k_with "subscriptTail Name Slice ref ref" => (refine Hold.out ?_))
  k_steps
  refine Hold.mk ?_
  rename Fr _ _ _ _ => lF
  rename News _ _ _ _ => lN
  refine' LCg.ListComp_U (F₀ := lF) ?b1 ?b2 ?b3 ?b4 ?b5 ?b6 ?b7
  case b1 => with_unfolding_all rfl
  case b2 => decide
  case b3 => rfl
  case b4 => decide
  case b5 => rfl
  case b7 => intro _; rfl
  k_steps
  refine Hold.mk ?_
  rename Fr _ _ _ _ => lF2
  rename News _ _ _ _ => lN2
  have hns : (((last : Int) - 1) - (first : Int)).toNat = last - 1 - first := by omega
  refine LCg.CompSrc.range (n := last - 1 - first) rfl lF2 lN2 (by assumption) (small_one (by omega) (by omega) (by omega) (by omega)) (by rw [rangeSize_nat, hns]) (by rw [sizeLine_eq]; omega) ?_
  intro g'
  refine comp_inv (fun i ys nx => ∃ Z, nx = (L + 9, o₁) :: (L + 8, o₂) :: (L + 7, o₃) :: (L + 6, o₄) :: (K.lf, listOf (List.toArray fv) fn) :: Z ∧ (∀ p ∈ R, p ∈ Z) ∧ Off5 L K.lf Z ∧ DatAll Z ys ((entsTo K.T K.ar first i).map datL)) ?turn ?done _ 0 [] _ (Nat.zero_add _) ⟨R, rfl, fun _ h => h, hR0.off5, .nil⟩
  case turn =>
    clear lF2 lN2
    rintro i ys nx hi ⟨Z, rfl, hsub, ho5, hda⟩ v I oI C oC D m₂ h tk E' ⟨t, rfl⟩ hC hx F' N' off ne
    have c5Z := hsub _ c5
    have c2Z := hsub _ c2
    have maZ := hsub _ ma
    have mtZ := hsub _ mt
    have harZ := har.mono hsub
    have hl9 := har.len
    clear har
    have p1 := hpos (first + i) (by omega) (by omega)
    have p2 := hpos (first + i + 1) (by omega) (by omega)
    have q1 : (K.ar.getD ((first : Int) + (i : Int)).toNat (0, 0)).1 = Pl K.ar (first + i) := by rw [show ((first : Int) + (i : Int)).toNat = first + i by omega]; rfl
    have q2 : (K.ar.getD ((first : Int) + (i : Int) + 1).toNat (0, 0)).1 = Pl K.ar (first + i + 1) := by rw [show ((first : Int) + (i : Int) + 1).toNat = first + i + 1 by omega]; rfl
    k_steps
    refine Hold.mk ?_
    rename Fr _ _ _ _ => lF
    rename News _ _ _ _ => lN
    refine' m_slice lF lN (lN.isList (.tail _ (.tail _ (.tail _ (.tail _ (.tail _ (.tail _ (.tail _ (.tail _ mtZ))))))))) ?sp1 ?sq1 it (kmk_run (x := Pl K.ar (first + i)) (y := Pl K.ar (first + i + 1) + 1) it (by omega) (by omega)) (by omega) ?_ ?ss1 ?st1
    case sp1 => rw [q1]; exact .int _ _
    case sq1 => rw [q2]; exact .int _ _
    case ss1 => with_unfolding_all rfl
    case st1 => kmk_pure
    intro Dn ws h9 F9 N9 l9 I9
    have offs := off.mem
    refine LCg.CompEnd.intro F9 N9 ((L + 9, o₁) :: (L + 8, o₂) :: (L + 7, o₃) :: (L + 6, o₄) :: (K.lf, listOf (List.toArray fv) fn) :: (Dn, listOf (List.toArray ws) 0) :: Z) ?sub ?off trivial ⟨_, rfl, fun p hp => .tail _ (hsub p hp), ?o5, ?da⟩
    case sub =>
      intro p hp
      simp only [List.mem_cons] at hp
      rcases hp with rfl | rfl | rfl | rfl | rfl | rfl | rfl | rfl | rfl | hp
      all_goals k_mem
    case off =>
      refine LCg.Off3.of fun p hp => ?_
      have hp2 : p = (Dn, listOf (List.toArray ws) 0) ∨ p ∈ (L + 9, o₁) :: (L + 8, o₂) :: (L + 7, o₃) :: (L + 6, o₄) :: (K.lf, listOf (List.toArray fv) fn) :: Z := by
        simp only [List.mem_cons] at hp
        rcases hp with rfl | rfl | rfl | rfl | rfl | rfl | hp
        all_goals first | exact .inl rfl | exact .inr (by k_mem)
      rcases hp2 with rfl | hp2
      · exact ⟨Nat.ne_of_gt (l9 (I, oI) (by simp)), Nat.ne_of_gt (l9 (C, oC) (by simp)), Nat.ne_of_gt (l9 (D, LCg.lst ys) (by simp))⟩
      · exact offs p hp2
    case o5 =>
      exact ho5.cons (Nat.ne_of_lt (l9 (L + 9, o₁) (by simp))) (Nat.ne_of_lt (l9 (L + 8, o₂) (by simp))) (Nat.ne_of_lt (l9 (L + 7, o₃) (by simp))) (Nat.ne_of_lt (l9 (L + 6, o₄) (by simp))) (Nat.ne_of_lt (l9 (K.lf, listOf (List.toArray fv) fn) (by simp)))
    case da =>
      rw [entsTo_succ, List.map_append]
      exact (hda.mono fun p hp => .tail _ hp).append (.one (.list (.head _) (dat_ints I9)))
  case done =>
    clear lF2 lN2
    rintro ys nx ⟨Z, rfl, hsub, ho5, hda⟩
    unfold LCg.FinE
    intro D3 h tk F' N' off
    dsimp only [LCg.Off1] at off
    obtain ⟨z9, z8, z7, z6, zf⟩ := id ho5
    (k_with "execs cons" => ((with_reducible show wpAny _ _ (execs (Stmt.Expr _ _ :: _) _) _ _ _); refine Hold.out ?_))
    k_steps
    refine Hold.mk ?_
    rename Fr _ _ _ _ => lF
    rename News _ _ _ _ => lN
    rename_i oe de
    refine AtB.use H B lF X (news := (L + 9, oe) :: (L + 8, o₂) :: (L + 7, o₃) :: (L + 6, o₄) :: (K.lf, listOf (List.toArray fv) fn) :: (D3, LCg.lst ys) :: Z) ?n T hd hu
      ⟨oe, o₂, o₃, o₄, fv, fn, v2, v3, t4, tl, D3, ys, (D3, LCg.lst ys) :: Z, rfl, hR0, ?rd, fun p hp => .tail _ (hsub p hp), de, d₂, d₃, d₄, hfb, .head _, hda.mono fun p hp => .tail _ hp, rfl, rfl, rfl, rfl⟩ hE ?ret
    case n =>
      intro p hp
      refine lN p ?_
      simp only [List.mem_cons] at hp
      rcases hp with rfl | rfl | rfl | rfl | rfl | rfl | hp
      all_goals k_mem
    case rd =>
      obtain ⟨a1, a2, a3, a4, a5, -⟩ := off
      exact hR0.grow (fun p hp => .tail _ (hsub p hp)) (ho5.cons a1 a2 a3 a4 a5)
    case ret => exact hret
def newAt (es : List (List Int)) (k : Nat) : Bool := !(es.take k).contains (es.getD k [])
def allNew (es : List (List Int)) : Bool := (List.range es.length).all (newAt es)
theorem bools_append {vs : List Value} {bs : List Bool} (h : LSm.BoolsAre vs bs) (b : Bool) : LSm.BoolsAre (vs ++ [.bool b]) (bs ++ [b]) := by
  induction h with
  | nil => exact .cons _ .nil
  | cons c _ ih => exact .cons c ih
theorem pick_to (l : List Value) (b : Nat) : kms_pick l none (some (b : Int)) = l.take b := by
  show (l.drop 0).take ((if (b : Int) < 0 then l.length - (-(b : Int)).toNat else min (b : Int).toNat l.length) - 0) = _
  have e : (if (b : Int) < 0 then l.length - (-(b : Int)).toNat else min (b : Int).toNat l.length) = min b l.length := by rw [if_neg (by omega)]; omega
  rw [e, List.drop_zero, Nat.sub_zero, kmk_take_min]
theorem datAll_take {news : List (Addr × Obj)} {vs : List Value} {ds : List Dat} (h : DatAll news vs ds) (k : Nat) : DatAll news (vs.take k) (ds.take k) := by
  induction vs generalizing ds k with
  | nil => cases h; simp; exact .nil
  | cons v vs ih =>
    cases h with
    | cons h r =>
      cases k with
      | zero => exact .nil
      | succ k => exact .cons h (ih r k)
theorem ok_datL (l : List Int) : kqdOk 8 (datL l) = true := by
  rw [kqdOk, List.all_eq_true]
  intro d hd
  obtain ⟨i, _, rfl⟩ := List.mem_map.mp hd
  rfl
open Classical in
theorem newAt_eq (es : List (List Int)) (k : Nat) : (!decide (datL (es.getD k []) ∈ (es.map datL).take k)) = newAt es k := by
  unfold newAt
  congr 1
  rw [← List.map_take]
  by_cases h : es.getD k [] ∈ es.take k
  · rw [decide_eq_true (List.mem_map_of_mem h), List.contains_iff_mem.mpr h]
  · rw [decide_eq_false, eq_comm, Bool.eq_false_iff]
    · exact fun hc => h (List.contains_iff_mem.mp hc)
    · intro hm
      obtain ⟨x, hx, e⟩ := List.mem_map.mp hm
      rw [datL_inj e] at hx
      exact h hx
section
variable {prog : Program} {w : World} {A : Around} {E : Value → Shared → Prop} {s : Shared} {h₀ : Heap} {L l : Addr}
theorem m_itemV {value slice : PySem.Expr} {news : List (Addr × Obj)} {us : List Value} {n k : Nat} {v : Value} {u : Tok} {Q : Value → Shared → Prop} (N : News h₀ L s.heap news) (hm : (l, listOf us.toArray n) ∈ news) (hv : us[k]? = some v)
    (hfit : us.length < 1000) (h : Q v s)
    (hs : subscripted slice false (.ref l) (.int k u) = operate [.ref l, .int k u] (getItem (.ref l) (.int k u))) :
    wpAny (model prog w) A (subscriptTail value slice (.ref l) (.int k u)) Q E s := by
  have hl : s.heap.IsList l us.toArray := ⟨_, (N _ hm).1, rfl, n, rfl⟩
  have hk : k < us.length := (List.getElem?_eq_some_iff.mp hv).1
  exact tail_any hl.typeIs slot_list_getitem.lookup (wpAny_getItem_list hl (by omega) (by omega) (by simpa using hv) h) hs
end
theorem segB4 (w : World) (K : Known) (R : List (Addr × Obj)) (first last : Nat) (fs : List Bool) (h1 : first < last) (h2 : last < K.ar.length) (hfs : fs.length < 9) :
    AtB w (bodyS.1.drop 4) (PB4 K R first last fs) (PB0 K R (last + 1) last (fs ++ [allNew (entsTo K.T K.ar first (last - 1 - first))])) := by
  dsimp only [AtB, lawS, lawEnv, bodyS, List.drop]
  k_fill
  intro loose mean mg mb dp un gd L a ccd outer A₀ base h₀ m s Q E news B F X N T hd hu hp hE hret
  obtain ⟨o₁, o₂, o₃, o₄, fv, fn, v2, v3, t4, tl, le, es, Z, rfl, hR0, hZ, hsub, d₁, d₂, d₃, d₄, hfb, mle, hda, hm1, hm2, hm3, hm4⟩ := hp
  have hm' : ∀ p ∈ [(Str.ofString "picks", Value.ref K.lp), (Str.ofString "packed", Value.ref K.lk), (Str.ofString "fresh", Value.ref K.lf), (Str.ofString "last", Value.int (last : Nat) tl)], m p.1 = some p.2 := by
    intro p hp
    rcases List.mem_cons.mp hp with rfl | hp
    · exact hm1
    · rcases List.mem_cons.mp hp with rfl | hp
      · exact hm2
      · rcases List.mem_cons.mp hp with rfl | hp
        · exact hm3
        · rw [List.mem_singleton.mp hp]; exact hm4
  rw [← kst_self hm'] at F
  dsimp only [kstB] at F
  clear hm' hm1 hm2 hm3 hm4
  obtain ⟨r9, r8, r7, r6, rf, c5, c4, c3, c2, e5, e4, e3, e2, ma, mk, m1, m2, mt, mp, har, ik, i1, i2, it, ip, fit, short, letters, f9, f8, f7, f6⟩ := hZ
  obtain ⟨en, hen⟩ : ∃ en, en = entsTo K.T K.ar first (last - 1 - first) := ⟨_, rfl⟩
  rw [← hen] at hda hret
  have hel : es.length = en.length := by rw [hda.length, List.length_map]
  have hel2 : en.length = last - 1 - first := by rw [hen]; unfold entsTo; rw [List.length_map, List.length_range]
  have hel3 : es.length < 100 := by omega
  have mle' : (le, listOf es.toArray es.length) ∈ Z := mle
  k_with_none
  (k_with "eval ListComp" => (refine Hold.out ?_))
  (k_with "CompSrc" => (refine Hold.out ?_))
  (k_with "CompEnd" => (refine Hold.out ?_))
  (k_with "subscriptTail Name Slice ref ref" => (refine Hold.out ?_))
  (k_with "subscriptTail" => (refine Hold.out ?_))
  (k_with "compareOp NotIn ref ref" => (refine Hold.out ?_))
  (k_with "call builtin:all" => (refine Hold.out ?_))
  (k_with "call builtin:list.append" => (refine Hold.out ?_))
  k_steps
  refine Hold.mk ?_
  rename Fr _ _ _ _ => lF
  rename News _ _ _ _ => lN
  refine' LCg.ListComp_U (F₀ := lF) ?b1 ?b2 ?b3 ?b4 ?b5 ?b6 ?b7
  case b1 => with_unfolding_all rfl
  case b2 => decide
  case b3 => rfl
  case b4 => decide
  case b5 => rfl
  case b7 => intro _; rfl
  k_steps
  refine Hold.mk ?_
  rename Fr _ _ _ _ => lF2
  rename News _ _ _ _ => lN2
  refine LCg.CompSrc.range (n := en.length) rfl lF2 lN2 (by assumption) (small_one (by omega) (by omega) (by omega) (by omega)) (by rw [rangeSize_nat, Int.sub_zero, Int.toNat_natCast, hel]) (by rw [sizeLine_eq]; omega) ?_
  intro g'
  refine comp_inv (fun i ys nx => nx = _ ∧ LSm.BoolsAre ys ((List.range i).map (newAt en))) ?turn ?done _ 0 [] _ (Nat.zero_add _) ⟨rfl, .nil⟩
  case turn =>
    clear lF2 lN2
    rintro i ys nx hi ⟨rfl, hys⟩ v I oI C oC D m₂ h tk E' ⟨t, rfl⟩ hC hx F' N' off ne
    rw [Int.zero_add] at hx
    k_steps
    refine Hold.mk ?_
    obtain ⟨v, hv, hdv⟩ := hda.get (k := i) (by rw [List.length_map]; exact hi)
    rw [List.getElem_map] at hdv
    obtain ⟨av, rfl⟩ : ∃ a, v = .ref a := by cases hdv; exact ⟨_, rfl⟩
    have hgd : en.getD i [] = en[i]'hi := by rw [List.getD_eq_getElem?_getD, List.getElem?_eq_getElem hi]; rfl
    rename Fr _ _ _ _ => lF
    rename News _ _ _ _ => lN
    refine m_itemV lN (.tail _ (.tail _ (.tail _ (.tail _ (.tail _ (.tail _ (.tail _ (.tail _ mle')))))))) hv (by omega) ?_ (by with_unfolding_all rfl)
    k_steps
    refine Hold.mk ?_
    refine' kms_slice_lit lF lN (lN.isList (.tail _ (.tail _ (.tail _ (.tail _ (.tail _ (.tail _ (.tail _ (.tail _ mle'))))))))) .none (.int _ _) (pick_to _ _) ?_ ?ss1 ?st1 ?sz1
    case ss1 => with_unfolding_all rfl
    case st1 => kmk_pure
    case sz1 => rw [List.size_toArray, sizeLine_eq]; omega
    intro Dn h9 F9 N9 l9
    clear lF lN
    k_steps
    refine Hold.mk ?_
    rename Fr _ _ _ _ => lF
    rename News _ _ _ _ => lN
    refine kqd_notIn lN (.head _) rfl rfl (datAll_take hda i) (fun p hp => .tail _ (.tail _ (.tail _ (.tail _ (.tail _ (.tail _ (.tail _ (.tail _ (.tail _ hp))))))))) hdv (fun p hp => .tail _ (.tail _ (.tail _ (.tail _ (.tail _ (.tail _ (.tail _ (.tail _ (.tail _ hp))))))))) ?_ (ok_datL _) (by ke_room) ?_
    · intro d hd
      obtain ⟨x, _, rfl⟩ := List.mem_map.mp (List.mem_of_mem_take hd)
      exact ok_datL x
    · rw [← hgd, newAt_eq]
      refine LCg.CompEnd.intro lF lN _ (fun p hp => .tail _ hp) off trivial ⟨rfl, ?_⟩
      rw [List.range_succ, List.map_append]
      exact bools_append hys _
  case done =>
    clear lF2 lN2
    rintro ys nx ⟨rfl, hys⟩
    unfold LCg.FinE
    intro D3 h tk F' N' off
    dsimp only [LCg.Off1] at off
    k_steps
    refine Hold.mk ?_
    rename Fr _ _ _ _ => lF
    rename News _ _ _ _ => lN
    refine LSm.all_bools lF lN rfl (lN.isList (.head _)) hys ?_
    have eall : (List.map (newAt en) (List.range en.length)).all id = allNew en := by rw [List.all_map]; rfl
    rw [eall]
    intro h8 tk8 F8 N8
    clear lF lN
    k_steps
    refine Hold.mk ?_
    rename Fr _ _ _ _ => lF
    rename News _ _ _ _ => lN
    obtain ⟨q9, q8, q7, q6, qf, -⟩ := id off
    refine m_append lF lN (.tail (Ne.symm qf) (.tail (Ne.symm f9) (.tail (Ne.symm f8) (.tail (Ne.symm f7) (.tail (Ne.symm f6) (.head rf)))))) ?_ (by rw [hfb.length]; omega)
    intro h7 F7 N7
    clear lF lN
    k_steps
    rename Fr _ _ _ _ => lF
    rename News _ _ _ _ => lN
    rename_i oe de
    have de' : oe.data = .cell (some (.int ((last + 1 : Nat) : Int) _)) := de
    refine hret _ _ _ ((L + 9, o₁) :: (L + 8, o₂) :: (L + 7, o₃) :: (L + 6, oe) :: (K.lf, listOf (List.toArray (fv ++ [Value.bool (allNew en)])) (fn + 1)) :: R) lF ?_
      ⟨o₁, o₂, o₃, oe, _, _, _, _, _, _, tl, rfl, hR0, d₁, d₂, d₃, de', bools_append hfb _, rfl, rfl, rfl, rfl⟩
    · intro p hp
      refine lN p ?_
      simp only [List.mem_cons] at hp
      rcases hp with rfl | rfl | rfl | rfl | rfl | hp
      all_goals first | k_mem | (have hp' := hsub _ hp; k_mem)
theorem AtLaw.relay {w : World} {stmts : List Stmt} {P P' : Heap → Addr → (Str → Option Value) → List (Addr × Obj) → Prop} (D : AtLaw w stmts P) (h : ∀ h₀ L m news, P' h₀ L m news → ∃ news', (∀ p ∈ news', p ∈ news) ∧ P h₀ L m news') : AtLaw w stmts P' := by
  intro loose mean mg mb dp un gd L a ccd outer A₀ base h₀ m s Q E news B F X N T hd hu hp hE hret
  obtain ⟨news', hs, hp'⟩ := h _ _ _ _ hp
  exact D.use B F X (fun p hp => N p (hs p hp)) T hd hu hp' hE hret
section
variable {prog : Program} {w : World} {A : Around} {h₀ : Heap} {L : Addr} {m : Str → Option Value} {env : Env} {ct elt : Expr} {x : Str} {scope : Scope} {cl : List (Str × Addr)} {s : Shared} {S : List (Addr × Obj) → Prop} {P : Nat → Value → Prop}
  {Fin : List Value → List (Addr × Obj) → Prop} {n : Nat}
/-- the turns of a list comprehension with a test, held together by what stays so -/
theorem comp_invT (J : Nat → List Value → List (Addr × Obj) → Prop)
    (turn : ∀ i ys news, i < n → J i ys news → ∀ v I oI C oC D m₂ h tk (E' : Value → Shared → Prop), P i v → LCg.NsObj oC m₂ → m₂ x = some v → Fr h₀ L h m → News h₀ L h ((I, oI) :: (C, oC) :: (D, LCg.lst ys) :: news) → LCg.Off3 I C D news →
      ((@Ne Nat I C) ∧ (@Ne Nat I D) ∧ (@Ne Nat C D)) →
      wpAny (model prog w) A (isTrue ct (compEnvC scope cl C env) (eval ct (compEnvC scope cl C env))) (fun ok s' => if ok = true then
        wpAny (model prog w) A (eval elt (compEnvC scope cl C env)) (LCg.CompEnd h₀ L m { s with heap := h, toks := tk } I oI C oC D (LCg.lst ys) S (fun y news' => J (i + 1) (ys ++ [y]) news')) E' s'
        else LCg.CompEnd h₀ L m { s with heap := h, toks := tk } I oI C oC D (LCg.lst ys) S (fun _ news' => J (i + 1) ys news') Value.none s') E' { s with heap := h, toks := tk })
    (done : ∀ ys news, J n ys news → Fin ys news) :
    ∀ k i ys news, i + k = n → J i ys news → LCt.CompRestT prog w A h₀ L m env ct elt x scope cl s S P Fin k i ys news
  | 0, i, ys, news, e, hj => LCt.CompRestT.zero (done ys news (by rw [← e]; exact hj))
  | k + 1, i, ys, news, e, hj => LCt.CompRestT.succ fun v I oI C oC D m₂ h tk E' hP hC hx F N off ne =>
    wpAny_mono (turn i ys news (by omega) hj v I oI C oC D m₂ h tk E' hP hC hx F N off ne)
      (fun ok s' h' => by
        cases ok with
        | true =>
          simp only [if_true] at h' ⊢
          exact wpAny_mono h' (fun y s₂ ⟨h', tk', news', e', F', N', off', hS', r⟩ => ⟨h', tk', news', e', F', N', off', hS', comp_invT J turn done k (i + 1) (ys ++ [y]) news' (by omega) r⟩) fun _ _ z => z
        | false =>
          simp only [Bool.false_eq_true, if_false] at h' ⊢
          obtain ⟨h', tk', news', e', F', N', off', hS', r⟩ := h'
          exact ⟨h', tk', news', e', F', N', off', hS', comp_invT J turn done k (i + 1) ys news' (by omega) r⟩) fun _ _ z => z
end
def endsTo (ar : List (Int × Int)) (i : Nat) : List Nat := (List.range i).filter fun k => decide ((ar.getD k (0, 0)).2 = 0)
theorem endsTo_yes {ar : List (Int × Int)} {i : Nat} (h : (ar.getD i (0, 0)).2 = 0) : endsTo ar (i + 1) = endsTo ar i ++ [i] := by
  unfold endsTo
  rw [List.range_succ, List.filter_append]
  congr 1
  simp only [List.filter_cons, List.filter_nil, h, decide_true, if_true]
theorem endsTo_no {ar : List (Int × Int)} {i : Nat} (h : ¬ (ar.getD i (0, 0)).2 = 0) : endsTo ar (i + 1) = endsTo ar i := by
  unfold endsTo
  rw [List.range_succ, List.filter_append]
  simp only [List.filter_cons, List.filter_nil, h, decide_false, Bool.false_eq_true, if_false, List.append_nil]
/-- what the plain law tells of a draw, at the reading -/
structure Told (ps T pk : List Int) (ar : List (Int × Int)) (e1 e2 : Nat) : Prop where
  ends : endsTo ar ar.length = [e1, e2]
  lo : 0 < e1
  mid : e1 + 1 < e2
  up : e2 < ar.length
  V1 : Valid ar 0 e1 (fun i => (sel oneL T).getD i.toNat 0)
  p1 : Pl ar e1 = T.length
  V2 : Valid ar (e1 + 1) e2 (fun i => (sel twoL T).getD i.toNat 0)
  p2 : Pl ar e2 = T.length
  new : allNew (entsTo T ar (e1 + 1) (e2 - 1 - (e1 + 1))) = true
  same : allNew (entsTo T ar 0 (e1 - 1 - 0)) = decide (pk = sel twoL ps ++ [0])
theorem turnB (w : World) (K : Known) (R : List (Addr × Obj)) (first last : Nat) (fs : List Bool) (h1 : first < last) (h2 : last < K.ar.length) (hfs : fs.length < 9)
    (V : Valid K.ar first last (fun i => (sel (if fs.isEmpty then oneL else twoL) K.T).getD i.toNat 0)) (hpl : Pl K.ar last = K.T.length) :
    AtB w bodyS.1 (PB0 K R first last fs) (PB0 K R (last + 1) last (fs ++ [allNew (entsTo K.T K.ar first (last - 1 - first))])) :=
  segB0 w K R first last fs _ (Nat.le_of_lt h1) h2 hfs (segB1 w K R first last fs _ (Nat.le_of_lt h1) h2 V hpl (segB3 w K R first last fs _ h1 h2 (fun _ ha hb => V.nonneg ha hb) (segB4 w K R first last fs h1 h2 hfs)))
/-- the same state, the ledger laid for the loop -/
def P9L (_h₀ : Heap) (L : Addr) (m : Str → Option Value) (news : List (Addr × Obj)) : Prop :=
  ∃ K R o₁ o₂ o₃ o₄ t0, news = (L + 9, o₁) :: (L + 8, o₂) :: (L + 7, o₃) :: (L + 6, o₄) :: (K.lf, listOf (List.toArray []) 0) :: R ∧ Rd L K R ∧
    o₁.data = .cell none ∧ o₂.data = .cell none ∧ o₃.data = .cell none ∧ o₄.data = .cell (some (.int 0 t0)) ∧ Draw K.ps ∧ (∃ ar1, Laid K.ps K.T K.pk ar1 K.ar) ∧
    m (Str.ofString "picks") = some (.ref K.lp) ∧ m (Str.ofString "packed") = some (.ref K.lk) ∧ m (Str.ofString "fresh") = some (.ref K.lf)
theorem seg9a (w : World) (H : AtLaw w (lawS.1.2.1.drop 9) P9L) : AtLaw w (lawS.1.2.1.drop 9) P9 := by
  refine H.relay ?_
  rintro h₀ L m news ⟨o₁, o₂, o₃, o₄, o₅, o₆, o₇, o₈, la, va, na, lf, lk, vk, nk, l1, v1, n1, l2, v2, n2, lt, vt, nt, lp, vp, np, ps, Tx, pk, ar1, ar, t0, add, rfl, d₁, d₂, d₃, d₄, d₅, d₆, d₇, d₈, hA, hIk, hI1, hI2, hIt, hI, hD, hLd, hm1, hm2, hm3, hnd, hadd⟩
  obtain ⟨C, hC⟩ : ∃ C : List (Addr × Obj), C = [(L + 5, o₅), (L + 4, o₆), (L + 3, o₇), (L + 2, o₈), (la, listOf (List.toArray va) na),
      (lk, listOf (List.toArray vk) nk), (l1, listOf (List.toArray v1) n1), (l2, listOf (List.toArray v2) n2), (lt, listOf (List.toArray vt) nt), (lp, listOf (List.toArray vp) np)] := ⟨_, rfl⟩
  have hperm : List.Nodup (α := Nat) ([L + 9, L + 8, L + 7, L + 6, lf] ++ [L + 5, L + 4, L + 3, L + 2, la, lk, l1, l2, lt, lp]) :=
    (List.Perm.nodup_iff (List.Perm.append_left (α := Nat) [L + 9, L + 8, L + 7, L + 6] (List.perm_middle (α := Nat) (l₁ := [L + 5, L + 4, L + 3, L + 2, la]) (a := lf) (l₂ := [lk, l1, l2, lt, lp])))).mp hnd
  have hdis := (List.nodup_append.mp hperm).2.2
  have hnd2 := (List.nodup_append.mp hperm).1
  simp only [List.nodup_cons, List.mem_cons, List.not_mem_nil, or_false, not_or, not_false_eq_true, List.nodup_nil, and_true] at hnd2
  have hoff : ∀ q : Nat, q ∈ [L + 9, L + 8, L + 7, L + 6, lf] → ∀ p ∈ C ++ add, ¬ @Eq Nat p.1 q := by
    intro q hq p hp
    rcases List.mem_append.mp hp with hp | hp
    · rw [hC] at hp
      have hp2 : p.1 ∈ List.map (fun p : Addr × Obj => p.1) _ := List.mem_map_of_mem (f := fun p : Addr × Obj => p.1) hp
      exact fun e => hdis q hq p.1 hp2 e.symm
    · have := hadd p hp q (by
        simp only [List.mem_cons, List.not_mem_nil, or_false] at hq
        rcases hq with rfl | rfl | rfl | rfl | rfl <;> k_mem)
      exact Nat.ne_of_gt this
  have hin : ∀ p ∈ C, p ∈ C ++ add := fun p hp => List.mem_append_left _ hp
  rw [hC] at hin
  refine ⟨(L + 9, o₁) :: (L + 8, o₂) :: (L + 7, o₃) :: (L + 6, o₄) :: (lf, listOf (List.toArray []) 0) :: (C ++ add), ?_, ⟨la, lf, lk, l1, l2, lt, lp, va, vk, v1, v2, vt, vp, na, nk, n1, n2, nt, np, o₅, o₆, o₇, o₈, ar, Tx, pk, ps⟩, C ++ add, o₁, o₂, o₃, o₄, t0, rfl,
    ⟨hoff _ (by k_mem), hoff _ (by k_mem), hoff _ (by k_mem), hoff _ (by k_mem), hoff _ (by k_mem), hC ▸ hin _ (by k_mem), hC ▸ hin _ (by k_mem), hC ▸ hin _ (by k_mem), hC ▸ hin _ (by k_mem), d₅, d₆, d₇, d₈, hC ▸ hin _ (by k_mem), hC ▸ hin _ (by k_mem), hC ▸ hin _ (by k_mem), hC ▸ hin _ (by k_mem), hC ▸ hin _ (by k_mem), hC ▸ hin _ (by k_mem), ?_, hIk, hI1, hI2, hIt, hI, hLd.fits, hLd.short, hLd.letters, ?_, ?_, ?_, ?_⟩,
    d₁, d₂, d₃, d₄, hD, ⟨ar1, hLd⟩, hm1, hm2, hm3⟩
  · intro p hp
    subst hC
    simp only [List.mem_cons, List.mem_append, List.not_mem_nil, or_false] at hp ⊢
    rcases hp with rfl | rfl | rfl | rfl | rfl | (rfl | rfl | rfl | rfl | rfl | rfl | rfl | rfl | rfl | rfl) | hp
    all_goals first | simp | simp [hp]
  · refine ⟨hA.len, fun k p hp => ?_⟩
    obtain ⟨a, t1, t2, n, e, hm⟩ := hA.get k p hp
    refine ⟨a, t1, t2, n, e, ?_⟩
    clear hnd hnd2 hoff hadd
    rcases List.mem_append.mp hm with hm | hm
    · simp only [List.mem_cons, List.not_mem_nil, or_false] at hm
      rcases hm with hm | hm | hm | hm | hm | hm | hm | hm | hm | hm | hm | hm | hm | hm | hm
      · cases hm; cases d₁
      · cases hm; cases d₂
      · cases hm; cases d₃
      · cases hm; cases d₄
      · cases hm; cases d₅
      · cases hm; cases d₆
      · cases hm; cases d₇
      · cases hm; cases d₈
      all_goals exact absurd (congrArg (fun p => p.2.cls) hm) (by simp [W.listOf])
    · exact List.mem_append_right _ hm
  all_goals exact fun he => absurd (show @Eq Nat _ _ from he.symm) (by simp only [hnd2, not_false_eq_true])
/-- behind the loop -/
def P10 (_h₀ : Heap) (L : Addr) (m : Str → Option Value) (news : List (Addr × Obj)) : Prop :=
  ∃ K R o₁ o₂ o₃ o₄ fv fn b, news = (L + 9, o₁) :: (L + 8, o₂) :: (L + 7, o₃) :: (L + 6, o₄) :: (K.lf, listOf (List.toArray fv) fn) :: R ∧ Rd L K R ∧
    LSm.BoolsAre fv [b, true] ∧ b = decide (K.pk = sel twoL K.ps ++ [0]) ∧ Draw K.ps ∧ K.pk.length < 60 ∧
    m (Str.ofString "picks") = some (.ref K.lp) ∧ m (Str.ofString "packed") = some (.ref K.lk) ∧ m (Str.ofString "fresh") = some (.ref K.lf)
/-- what stays over the ends -/
def EndJ (L : Addr) (K : Known) (R : List (Addr × Obj)) (firsts : List Nat) (bs : List Bool) (i : Nat) (m : Str → Option Value) (nx : List (Addr × Obj)) : Prop :=
  ∃ o₁ o₂ o₃ o₄ fv fn v1 v2 v3 t4, nx = (L + 9, o₁) :: (L + 8, o₂) :: (L + 7, o₃) :: (L + 6, o₄) :: (K.lf, listOf (List.toArray fv) fn) :: R ∧
    o₁.data = .cell v1 ∧ o₂.data = .cell v2 ∧ o₃.data = .cell v3 ∧ o₄.data = .cell (some (.int (firsts.getD i 0 : Nat) t4)) ∧ LSm.BoolsAre fv (bs.take i) ∧
    m (Str.ofString "picks") = some (.ref K.lp) ∧ m (Str.ofString "packed") = some (.ref K.lk) ∧ m (Str.ofString "fresh") = some (.ref K.lf)
theorem seg9b (w : World) (hT : ∀ ps T pk ar1 ar, Draw ps → Laid ps T pk ar1 ar → ∃ e1 e2, Told ps T pk ar e1 e2) (H : AtLaw w (lawS.1.2.1.drop 10) P10) : AtLaw w (lawS.1.2.1.drop 9) P9L := by
  dsimp only [AtLaw, lawS, lawEnv, List.drop]
  k_fill
  intro loose mean mg mb dp un gd L a ccd outer A₀ base h₀ m s Q E news B F X N T hd hu hp hE hret
  obtain ⟨K, R, o₁, o₂, o₃, o₄, t0, rfl, hR, d₁, d₂, d₃, d₄, hD, ⟨ar1, hLd⟩, hm1, hm2, hm3⟩ := hp
  obtain ⟨e1, e2, hTo⟩ := hT _ _ _ _ _ hD hLd
  have hm' : ∀ p ∈ [(Str.ofString "picks", Value.ref K.lp), (Str.ofString "packed", Value.ref K.lk), (Str.ofString "fresh", Value.ref K.lf)], m p.1 = some p.2 := by
    intro p hp
    rcases List.mem_cons.mp hp with rfl | hp
    · exact hm1
    · rcases List.mem_cons.mp hp with rfl | hp
      · exact hm2
      · rw [List.mem_singleton.mp hp]; exact hm3
  rw [← kst_self hm'] at F
  dsimp only [kstB] at F
  clear hm' hm1 hm2 hm3
  have hR0 := hR
  obtain ⟨r9, r8, r7, r6, rf, c5, c4, c3, c2, e5, e4, e3, e2', ma, mk, m1, m2, mt, mp, har, ik, i1, i2, it, ip, fit, short, letters, f9, f8, f7, f6⟩ := hR
  have hvl := har.len
  have hvl3 : K.va.length < 100 := by omega
  k_with_none
  (k_with "eval ListComp" => (refine Hold.out ?_))
  (k_with "CompSrcT" => (refine Hold.out ?_))
  (k_with "CompEnd" => (refine Hold.out ?_))
  (k_with "pyIter ref" => (refine Hold.out ?_))
  (k_with "exec For Name ListComp cons nil" => (refine Hold.out ?_))
  (k_with "exec For Name" => (refine Hold.out ?_))
  k_steps
  refine Hold.mk ?_
  rename Fr _ _ _ _ => lF
  rename News _ _ _ _ => lN
  with_unfolding_all refine' For_invVF (hE := hE) lF ?f1 ?f2 ?f3
  case f1 => exact rfl
  case f2 => exact rfl
  k_steps
  refine Hold.mk ?_
  rename Fr _ _ _ _ => lF
  rename News _ _ _ _ => lN
  refine' LCt.ListComp_T (F₀ := lF) ?b1 ?b2 ?b3 ?b4 ?b5 ?b6 ?b7
  case b1 => with_unfolding_all rfl
  case b2 => decide
  case b3 => rfl
  case b4 => decide
  case b5 => rfl
  case b7 => intro _; rfl
  k_steps
  refine Hold.mk ?_
  rename Fr _ _ _ _ => lF2
  rename News _ _ _ _ => lN2
  refine LCt.CompSrcT.range (n := K.ar.length) rfl lF2 lN2 (by assumption) (small_one (by omega) (by omega) (by omega) (by omega)) (by rw [rangeSize_nat, Int.sub_zero, Int.toNat_natCast, hvl]) (by rw [sizeLine_eq]; omega) ?_
  intro g'
  refine comp_invT (fun i ys nx => nx = _ ∧ IntsAre ys ((endsTo K.ar i).map fun (k : Nat) => (k : Int))) ?turn ?done _ 0 [] _ (Nat.zero_add _) ⟨rfl, .nil⟩
  case turn =>
    clear lF2 lN2
    rintro i ys nx hi ⟨rfl, hys⟩ v I oI C oC D m₂ h tk E' ⟨t, rfl⟩ hC hx F' N' off ne
    rw [Int.zero_add] at hx
    k_steps
    · refine Hold.mk ?_
      rename Fr _ _ _ _ => lF
      rename News _ _ _ _ => lN
      have h0' : (K.ar.getD (i : Int).toNat (0, 0)).2 = 0 := by assumption
      have h0 : (K.ar.getD i (0, 0)).2 = 0 := h0'
      refine LCg.CompEnd.intro lF lN _ (fun p hp => hp) off trivial ⟨rfl, ?_⟩
      rw [endsTo_yes h0, List.map_append]
      exact hys.append (.cons _ _ .nil)
    · refine Hold.mk ?_
      rename Fr _ _ _ _ => lF
      rename News _ _ _ _ => lN
      have h0' : (K.ar.getD (i : Int).toNat (0, 0)).2 ≠ 0 := by assumption
      have h0 : ¬ (K.ar.getD i (0, 0)).2 = 0 := h0'
      refine LCg.CompEnd.intro lF lN _ (fun p hp => hp) off trivial ⟨rfl, ?_⟩
      rw [endsTo_no h0]
      exact hys
  case done =>
    clear lF2 lN2
    rintro ys nx ⟨rfl, hys⟩
    unfold LCg.FinE
    intro D3 h tk F' N' off
    dsimp only [LCg.Off1] at off
    k_steps
    refine Hold.mk ?_
    rename Fr _ _ _ _ => lF
    rename News _ _ _ _ => lN
    rw [hTo.ends] at hys
    obtain ⟨te1, te2, rfl⟩ : ∃ t1 t2, ys = [Value.int (e1 : Nat) t1, Value.int (e2 : Nat) t2] := by
      cases hys with | cons _ t1 r => cases r with | cons _ t2 r => cases r; exact ⟨t1, t2, rfl⟩
    obtain ⟨q9, q8, q7, q6, qf, -⟩ := id off
    obtain ⟨R2, hR2⟩ : ∃ R2, R2 = (D3, LCg.lst [Value.int (e1 : Nat) te1, Value.int (e2 : Nat) te2]) :: R := ⟨_, rfl⟩
    have hRd : Rd L K R2 := by rw [hR2]; exact hR0.cons (Ne.symm q9) (Ne.symm q8) (Ne.symm q7) (Ne.symm q6) (Ne.symm qf)
    have hlm : (D3, listOf [Value.int (e1 : Nat) te1, Value.int (e2 : Nat) te2].toArray 2) ∈ R2 := by rw [hR2]; exact .head _
    have lN2 : News h₀ L h ((L + 9, o₁) :: (L + 8, o₂) :: (L + 7, o₃) :: (L + 6, o₄) :: (K.lf, listOf (List.toArray []) 0) :: R2) := fun p hp => lN p (by
      rw [hR2] at hp
      simp only [List.mem_cons] at hp
      rcases hp with rfl | rfl | rfl | rfl | rfl | rfl | hp
      all_goals k_mem)
    clear lN
    refine' kdl_iter (EndJ L K R2 [0, e1 + 1, e2 + 1] [decide (K.pk = sel twoL K.ps ++ [0]), true]) rfl (.tail _ (.tail _ (.tail _ (.tail _ (.tail _ hlm))))) lF lN2 ?l1 ?l2 ?l3
    case l1 => exact ⟨o₁, o₂, o₃, o₄, [], 0, none, none, none, t0, rfl, d₁, d₂, d₃, d₄, .nil, rfl, rfl, rfl⟩
    case l2 =>
      clear lF lN2
      rintro i v m1 nx h tk own hv hoff hlm' ⟨o₁, o₂, o₃, o₄, fv, fn, v1, v2, v3, t4, rfl, d₁, d₂, d₃, d₄, hfb, hm1, hm2, hm3⟩ F1 N1
      have hsub : ∀ p ∈ R2, p ∈ R2 ++ own := fun p hp => List.mem_append_left _ hp
      have hRo : Rd L K (R2 ++ own) := by
        refine hRd.grow hsub ⟨?_, ?_, ?_, ?_, ?_⟩
        all_goals
          intro p hp
          rcases List.mem_append.mp hp with hp | hp
        · exact hRd.r9 p hp
        · exact hoff p hp _ (by simp)
        · exact hRd.r8 p hp
        · exact hoff p hp _ (by simp)
        · exact hRd.r7 p hp
        · exact hoff p hp _ (by simp)
        · exact hRd.r6 p hp
        · exact hoff p hp _ (by simp)
        · exact hRd.rf p hp
        · exact hoff p hp _ (by simp)
      have hend : ∀ h' m' tk' news' fv' fn' o₁ o₂ o₃ o₄ v1 v2 v3 t4, Fr h₀ L h' m' → News h₀ L h' news' → news' = (L + 9, o₁) :: (L + 8, o₂) :: (L + 7, o₃) :: (L + 6, o₄) :: (K.lf, listOf (List.toArray fv') fn') :: (R2 ++ own) →
          o₁.data = .cell v1 → o₂.data = .cell v2 → o₃.data = .cell v3 → o₄.data = .cell (some (.int ([0, e1 + 1, e2 + 1].getD (i + 1) 0 : Nat) t4)) → LSm.BoolsAre fv' ([decide (K.pk = sel twoL K.ps ++ [0]), true].take (i + 1)) →
          m' (Str.ofString "picks") = some (.ref K.lp) → m' (Str.ofString "packed") = some (.ref K.lk) → m' (Str.ofString "fresh") = some (.ref K.lf) →
          InvEndG h₀ L (fun m' nx => (D3, listOf [Value.int (e1 : Nat) te1, Value.int (e2 : Nat) te2].toArray 2) ∈ nx ∧ EndJ L K R2 [0, e1 + 1, e2 + 1] [decide (K.pk = sel twoL K.ps ++ [0]), true] (i + 1) m' nx) own { s with heap := h, toks := tk } { s with heap := h', toks := tk' } := by
        rintro h' m' tk' _ fv' fn' o₁ o₂ o₃ o₄ v1 v2 v3 t4 F' N' rfl d₁ d₂ d₃ d₄ hfb hm1 hm2 hm3
        refine InvEndG.intro F' N' (nx := (L + 9, o₁) :: (L + 8, o₂) :: (L + 7, o₃) :: (L + 6, o₄) :: (K.lf, listOf (List.toArray fv') fn') :: R2) ⟨.tail _ (.tail _ (.tail _ (.tail _ (.tail _ hlm)))), o₁, o₂, o₃, o₄, fv', fn', v1, v2, v3, t4, rfl, d₁, d₂, d₃, d₄, hfb, hm1, hm2, hm3⟩ hoff ?_ ?_
        · intro p hp
          simp only [List.mem_cons, List.mem_append] at hp ⊢
          rcases hp with rfl | rfl | rfl | rfl | rfl | hp
          all_goals first | simp | simp [hp]
        · intro p hp
          simp only [List.mem_cons, List.mem_append]
          simp [hp]
      have hnm : ∀ (z : Str) (u : Value), z ≠ Str.ofString "last" → m1 z = some u → (fun y => if y = Str.ofString "last" then some v else m1 y) z = some u := fun z u hz hu => by
        show (if z = Str.ofString "last" then some v else m1 z) = some u
        rw [if_neg hz]; exact hu
      rcases i with _ | _ | i
      · obtain rfl : Value.int (e1 : Nat) te1 = v := Option.some.inj hv
        have hD1 := turnB w K (R2 ++ own) 0 e1 [] hTo.lo (by have := hTo.mid; have := hTo.up; omega) (by decide) hTo.V1 hTo.p1
        refine AtB.use hD1 B F1 X N1 T hd hu ⟨o₁, o₂, o₃, o₄, fv, fn, v1, v2, v3, t4, te1, rfl, hRo, d₁, d₂, d₃, d₄, hfb, hnm _ _ (by decide) hm1, hnm _ _ (by decide) hm2, hnm _ _ (by decide) hm3, rfl⟩ hE ?_
        rintro h' m' tk' news' F' N' ⟨o₁, o₂, o₃, o₄, fv', fn', v1, v2, v3, t4, tl, he, -, d₁, d₂, d₃, d₄, hfb', hm1, hm2, hm3, -⟩
        exact hend _ _ _ _ _ _ _ _ _ _ _ _ _ _ F' N' he d₁ d₂ d₃ d₄ (by rw [hTo.same] at hfb'; exact hfb') hm1 hm2 hm3
      · obtain rfl : Value.int (e2 : Nat) te2 = v := Option.some.inj hv
        have hD1 := turnB w K (R2 ++ own) (e1 + 1) e2 [decide (K.pk = sel twoL K.ps ++ [0])] hTo.mid hTo.up (by show 1 < 9; omega) hTo.V2 hTo.p2
        refine AtB.use hD1 B F1 X N1 T hd hu ⟨o₁, o₂, o₃, o₄, fv, fn, v1, v2, v3, t4, te2, rfl, hRo, d₁, d₂, d₃, d₄, hfb, hnm _ _ (by decide) hm1, hnm _ _ (by decide) hm2, hnm _ _ (by decide) hm3, rfl⟩ hE ?_
        rintro h' m' tk' news' F' N' ⟨o₁, o₂, o₃, o₄, fv', fn', v1, v2, v3, t4, tl, he, -, d₁, d₂, d₃, d₄, hfb', hm1, hm2, hm3, -⟩
        exact hend _ _ _ _ _ _ _ _ _ _ _ _ _ _ F' N' he d₁ d₂ d₃ d₄ (by rw [hTo.new] at hfb'; exact hfb') hm1 hm2 hm3
      · simp at hv
    case l3 =>
      clear lF lN2
      rintro m1 nx h tk ⟨o₁, o₂, o₃, o₄, fv, fn, v1, v2, v3, t4, rfl, d₁, d₂, d₃, d₄, hfb, hm1, hm2, hm3⟩ F1 N1
      refine AtLaw.use H B F1 X N1 T hd hu ⟨K, R2, o₁, o₂, o₃, o₄, fv, fn, _, rfl, hRd, hfb, rfl, hD, hLd.plen, hm1, hm2, hm3⟩ hE ?_
      exact fun h' m' tk' F' => hret h' m' tk' F'
theorem seg10 (w : World) : AtLaw w (lawS.1.2.1.drop 10) P10 := by
  dsimp only [AtLaw, lawS, lawEnv, List.drop]
  k_fill
  intro loose mean mg mb dp un gd L a ccd outer A₀ base h₀ m s Q E news B F X N T hd hu hp hE hret
  obtain ⟨K, R, o₁, o₂, o₃, o₄, fv, fn, b, rfl, hR, hfb, hb, hD, hpl, hm1, hm2, hm3⟩ := hp
  have hm' : ∀ p ∈ [(Str.ofString "picks", Value.ref K.lp), (Str.ofString "packed", Value.ref K.lk), (Str.ofString "fresh", Value.ref K.lf)], m p.1 = some p.2 := by
    intro p hp
    rcases List.mem_cons.mp hp with rfl | hp
    · exact hm1
    · rcases List.mem_cons.mp hp with rfl | hp
      · exact hm2
      · rw [List.mem_singleton.mp hp]; exact hm3
  rw [← kst_self hm'] at F
  dsimp only [kstB] at F
  clear hm' hm1 hm2 hm3
  obtain rfl : fv = [.bool b, .bool true] := by cases hfb with | cons _ r => cases r with | cons _ r => cases r; rfl
  obtain ⟨r9, r8, r7, r6, rf, c5, c4, c3, c2, e5, e4, e3, e2, ma, mk, m1, m2, mt, mp, har, ik, i1, i2, it, ip, fit, short, letters, f9, f8, f7, f6⟩ := hR
  have hps5 : K.ps.length = 5 := by
    obtain ⟨p₀, p₁, p₂, p₃, p₄, h, _⟩ := hD
    rw [h]; rfl
  have hsl : (sel twoL K.ps).length = 5 := by unfold sel; rw [List.length_map, hps5]
  k_with_none
  (k_with "eval ListComp" => (refine Hold.out ?_))
  (k_with "CompSrc" => (refine Hold.out ?_))
  (k_with "CompEnd" => (refine Hold.out ?_))
  (k_with "binaryOp Add ref ref" => (refine Hold.out ?_))
  (k_with "compareOp Eq ref ref" => (refine Hold.out ?_))
  k_steps
  refine Hold.mk ?_
  rename Fr _ _ _ _ => lF
  rename News _ _ _ _ => lN
  refine' LCg.ListComp_U (F₀ := lF) ?b1 ?b2 ?b3 ?b4 ?b5 ?b6 ?b7
  case b1 => with_unfolding_all rfl
  case b2 => decide
  case b3 => rfl
  case b4 => decide
  case b5 => rfl
  case b7 => intro _; rfl
  k_steps
  refine Hold.mk ?_
  rename Fr _ _ _ _ => lF2
  rename News _ _ _ _ => lN2
  refine LCg.CompSrc.ledger (its := K.vp.toArray) (k := K.np) rfl lF2 lN2 ?sm ?ss ?_
  case sm => exact .tail _ (.tail _ (.tail _ (.tail _ (.tail _ mp))))
  case ss => rw [List.size_toArray, ip.length, hps5]; exact Nat.le_of_ble_eq_true rfl
  intro g2
  refine comp_inv (fun i ys nx => nx = _ ∧ IntsAre ys (sel twoL (K.ps.take i))) ?turn2 ?done2 _ 0 [] _ (Nat.zero_add _) ⟨rfl, .nil⟩
  case turn2 =>
    clear lF2 lN2
    rintro i ys nx hi ⟨rfl, hys2⟩ v I oI C oC D m₂ h tk E' hv hC hx F' N' off2 ne
    have hil : i < K.ps.length := by rw [List.size_toArray, ip.length] at hi; exact hi
    obtain ⟨p, hp⟩ : ∃ p, p = K.ps[i]'hil := ⟨_, rfl⟩
    obtain ⟨tp, hvp⟩ := ip.get i p (by rw [hp]; exact List.getElem?_eq_getElem hil)
    have hv' : v = .int p tp := by
      have hv2 : K.vp[i]? = some v := by simpa using hv
      rw [hvp] at hv2; exact (Option.some.inj hv2).symm
    subst hv'
    have hpl : 0 ≤ p ∧ p < 7 := by
      have hmem : p ∈ K.ps := by rw [hp]; exact List.getElem_mem hil
      obtain ⟨p₀, p₁, p₂, p₃, p₄, h, _⟩ := hD
      rw [h] at hmem
      simp only [List.mem_cons, List.not_mem_nil, or_false] at hmem
      omega
    have htl : (twoL.length : Int) = 7 := rfl
    k_steps
    refine Hold.mk ?_
    refine LCg.CompEnd.intro F' N' _ (fun p hp => hp) off2 (.inr ⟨listOf K.vp.toArray K.np, .tail _ (.tail _ (.tail _ (.tail _ (.tail _ mp)))), rfl, K.np, rfl⟩) ⟨rfl, ?si⟩
    case si => rw [sel_take hil, ← hp]; exact hys2.append (.cons _ _ .nil)
  case done2 =>
    clear lF2 lN2
    rintro ys nx ⟨rfl, hys2⟩
    rw [List.size_toArray, ip.length, List.take_length] at hys2
    unfold LCg.FinE
    intro D3 h tk F' N' off2
    dsimp only [LCg.Off1] at off2
    k_steps
    refine Hold.mk ?_
    rename Fr _ _ _ _ => lF
    rename News _ _ _ _ => lN
    refine m_cat lF lN (.tail _ (.head _)) (.head _) hys2 (.cons _ _ .nil) ?_ (by rw [hsl]; decide)
    intro D6 x6 h6 F6 N6 l6 I6
    clear lF lN
    have mk6 : (K.lk, listOf K.vk.toArray K.nk) ∈ R := mk
    k_steps
    refine Hold.mk ?_
    rename Fr _ _ _ _ => lF
    rename News _ _ _ _ => lN
    refine ke_eq_ints (lN.isList (.tail _ (.tail _ (.tail _ (.tail _ (.tail _ (.tail _ (.tail _ (.tail _ mk6))))))))) (lN.isList (.head _)) ik I6 (by ke_room) ?_
    rw [← hb]
    k_steps
    refine Hold.mk ?_
    rename Fr _ _ _ _ => lF
    rename News _ _ _ _ => lN
    refine eq_dataH (by ke_read) (by ke_read) (by ke_shaped) (by ke_shaped) (by ke_room) ?_
    ke_norm
    k_steps
    exact hret _ _ _ lF
end Mine
namespace Mine
open PySem PySem.W PyProof.Rows PySem.Calls PySem.Spec
set_option maxRecDepth 100000
set_option maxHeartbeats 8000000
def validB (ar : List (Int × Int)) (first last : Nat) (sg : List Int) : Bool :=
  decide (Pl ar first = 0) && (List.range (last - first)).all fun d =>
    decide (Pl ar (first + d) < Pl ar (first + d + 1)) &&
    if Cd ar (first + d) < 256 then decide (Pl ar (first + d + 1) = Pl ar (first + d) + 1) && decide (sg.getD (Pl ar (first + d)).toNat 0 = Cd ar (first + d))
    else decide (first + (Cd ar (first + d) - 256).toNat < first + d) &&
      decide (Pl ar (first + d + 1) - Pl ar (first + d) = Pl ar (first + (Cd ar (first + d) - 256).toNat + 1) - Pl ar (first + (Cd ar (first + d) - 256).toNat) + 1) &&
      (List.range (Pl ar (first + (Cd ar (first + d) - 256).toNat + 1) - Pl ar (first + (Cd ar (first + d) - 256).toNat) + 1).toNat).all fun i =>
        decide (sg.getD (Pl ar (first + d) + (i : Int)).toNat 0 = sg.getD (Pl ar (first + (Cd ar (first + d) - 256).toNat) + (i : Int)).toNat 0)
theorem validB_sound {ar : List (Int × Int)} {first last : Nat} {sg : List Int} (h : validB ar first last sg = true) (h1 : first ≤ last) (h2 : last < ar.length) : Valid ar first last (fun i => sg.getD i.toNat 0) := by
  unfold validB at h
  rw [Bool.and_eq_true, decide_eq_true_eq, List.all_eq_true] at h
  obtain ⟨h0, h⟩ := h
  have hk : ∀ k, first ≤ k → k < last → Pl ar k < Pl ar (k + 1) ∧ (if Cd ar k < 256 then decide (Pl ar (k + 1) = Pl ar k + 1) && decide (sg.getD (Pl ar k).toNat 0 = Cd ar k)
    else decide (first + (Cd ar k - 256).toNat < k) && decide (Pl ar (k + 1) - Pl ar k = Pl ar (first + (Cd ar k - 256).toNat + 1) - Pl ar (first + (Cd ar k - 256).toNat) + 1) &&
      (List.range (Pl ar (first + (Cd ar k - 256).toNat + 1) - Pl ar (first + (Cd ar k - 256).toNat) + 1).toNat).all fun i =>
        decide (sg.getD (Pl ar k + (i : Int)).toNat 0 = sg.getD (Pl ar (first + (Cd ar k - 256).toNat) + (i : Int)).toNat 0)) = true := by
    intro k ha hb
    have := h (k - first) (List.mem_range.mpr (by omega))
    rw [show first + (k - first) = k by omega, Bool.and_eq_true, decide_eq_true_eq] at this
    exact this
  refine ⟨h1, h2, h0, fun k ha hb => (hk k ha hb).1, fun k ha hb hc => ?_, fun k ha hb hc => ?_⟩
  · have := (hk k ha hb).2
    rw [if_pos hc, Bool.and_eq_true, decide_eq_true_eq, decide_eq_true_eq] at this
    exact this
  · have := (hk k ha hb).2
    rw [if_neg (by omega), Bool.and_eq_true, Bool.and_eq_true, decide_eq_true_eq, decide_eq_true_eq, List.all_eq_true] at this
    obtain ⟨⟨a1, a2⟩, a3⟩ := this
    refine ⟨(Cd ar k - 256).toNat, by omega, a1, a2, fun i i0 i1 => ?_⟩
    have := a3 i.toNat (List.mem_range.mpr (by omega))
    rw [decide_eq_true_eq, show ((i.toNat : Nat) : Int) = i by omega] at this
    exact this
def okL (ps : List Int) : Bool :=
  match textF ps [] [] with
  | none => false
  | some T =>
    match laidF 0 (sel oneL ps ++ [0]) [] 0 with
    | none => false
    | some ar1 =>
      match laidF ar1.length (packF (sel twoL T) [] [] 0) ar1 0 with
      | none => false
      | some ar =>
        decide (T.length ≤ 20) && (T.all fun p => decide (0 ≤ p) && decide (p < 3)) && decide ((packF (sel twoL T) [] [] 0).length < 60) && decide (ar.length < 100) && decide (8 < ar.length) &&
        decide (endsTo ar ar.length = [5, ar.length - 1]) && validB ar 0 5 (sel oneL T) && validB ar 6 (ar.length - 1) (sel twoL T) && decide (Pl ar 5 = T.length) && decide (Pl ar (ar.length - 1) = T.length) &&
        allNew (entsTo T ar 6 (ar.length - 1 - 1 - 6)) && (allNew (entsTo T ar 0 (5 - 1 - 0)) == decide (packF (sel twoL T) [] [] 0 = sel twoL ps ++ [0]))
theorem okL_sound {ps : List Int} (h : okL ps = true) : ∃ T pk ar1 ar, Laid ps T pk ar1 ar ∧ ∃ e1 e2, Told ps T pk ar e1 e2 := by
  unfold okL at h
  split at h
  · cases h
  rename_i T hT
  split at h
  · cases h
  rename_i ar1 h1
  split at h
  · cases h
  rename_i ar h2
  simp only [Bool.and_eq_true, decide_eq_true_eq, List.all_eq_true, beq_iff_eq] at h
  obtain ⟨⟨⟨⟨⟨⟨⟨⟨⟨⟨⟨a1, a2⟩, a3⟩, a4⟩, a5⟩, a6⟩, a7⟩, a8⟩, a9⟩, a10⟩, a11⟩, a12⟩ := h
  exact ⟨T, _, ar1, ar, ⟨hT, a1, a2, rfl, a3, h1, h2, a4⟩, 5, ar.length - 1, ⟨a6, by omega, by omega, by omega, validB_sound a7 (by omega) (by omega), a9, validB_sound a8 (by omega) (by omega), a10, a11, a12⟩⟩
theorem Laid.eq {ps T pk T' pk' : List Int} {ar1 ar ar1' ar' : List (Int × Int)} (h : Laid ps T pk ar1 ar) (h' : Laid ps T' pk' ar1' ar') : T = T' ∧ pk = pk' ∧ ar = ar' := by
  have e1 : T = T' := Option.some.inj (h.text.symm.trans h'.text)
  subst e1
  have e2 : pk = pk' := h.packs.trans h'.packs.symm
  subst e2
  have e3 : ar1 = ar1' := Option.some.inj (h.first.symm.trans h'.first)
  subst e3
  exact ⟨rfl, rfl, Option.some.inj (h.second.symm.trans h'.second)⟩
def ok5 (a b c d e : Nat) : Bool := okL [(a : Int), (b : Int), (c : Int), (d : Int), (e : Int)]
def okR (a b c : Nat) : Bool := (List.range 6).all fun d => (List.range 7).all fun e => ok5 a b c d e
theorem okR_get {a b c d e : Nat} (h : okR a b c = true) (hd : d < 6) (he : e < 7) : ok5 a b c d e = true :=
  List.all_eq_true.mp (List.all_eq_true.mp h d (List.mem_range.mpr hd)) e (List.mem_range.mpr he)
theorem q000 : okR 0 0 0 = true := by decide +kernel
theorem q001 : okR 0 0 1 = true := by decide +kernel
theorem q002 : okR 0 0 2 = true := by decide +kernel
theorem q003 : okR 0 0 3 = true := by decide +kernel
theorem q004 : okR 0 0 4 = true := by decide +kernel
theorem q010 : okR 0 1 0 = true := by decide +kernel
theorem q011 : okR 0 1 1 = true := by decide +kernel
theorem q012 : okR 0 1 2 = true := by decide +kernel
theorem q013 : okR 0 1 3 = true := by decide +kernel
theorem q014 : okR 0 1 4 = true := by decide +kernel
theorem q020 : okR 0 2 0 = true := by decide +kernel
theorem q021 : okR 0 2 1 = true := by decide +kernel
theorem q022 : okR 0 2 2 = true := by decide +kernel
theorem q023 : okR 0 2 3 = true := by decide +kernel
theorem q024 : okR 0 2 4 = true := by decide +kernel
theorem q030 : okR 0 3 0 = true := by decide +kernel
theorem q031 : okR 0 3 1 = true := by decide +kernel
theorem q032 : okR 0 3 2 = true := by decide +kernel
theorem q033 : okR 0 3 3 = true := by decide +kernel
theorem q034 : okR 0 3 4 = true := by decide +kernel
theorem q100 : okR 1 0 0 = true := by decide +kernel
theorem q101 : okR 1 0 1 = true := by decide +kernel
theorem q102 : okR 1 0 2 = true := by decide +kernel
theorem q103 : okR 1 0 3 = true := by decide +kernel
theorem q104 : okR 1 0 4 = true := by decide +kernel
theorem q110 : okR 1 1 0 = true := by decide +kernel
theorem q111 : okR 1 1 1 = true := by decide +kernel
theorem q112 : okR 1 1 2 = true := by decide +kernel
theorem q113 : okR 1 1 3 = true := by decide +kernel
theorem q114 : okR 1 1 4 = true := by decide +kernel
theorem q120 : okR 1 2 0 = true := by decide +kernel
theorem q121 : okR 1 2 1 = true := by decide +kernel
theorem q122 : okR 1 2 2 = true := by decide +kernel
theorem q123 : okR 1 2 3 = true := by decide +kernel
theorem q124 : okR 1 2 4 = true := by decide +kernel
theorem q130 : okR 1 3 0 = true := by decide +kernel
theorem q131 : okR 1 3 1 = true := by decide +kernel
theorem q132 : okR 1 3 2 = true := by decide +kernel
theorem q133 : okR 1 3 3 = true := by decide +kernel
theorem q134 : okR 1 3 4 = true := by decide +kernel
theorem q200 : okR 2 0 0 = true := by decide +kernel
theorem q201 : okR 2 0 1 = true := by decide +kernel
theorem q202 : okR 2 0 2 = true := by decide +kernel
theorem q203 : okR 2 0 3 = true := by decide +kernel
theorem q204 : okR 2 0 4 = true := by decide +kernel
theorem q210 : okR 2 1 0 = true := by decide +kernel
theorem q211 : okR 2 1 1 = true := by decide +kernel
theorem q212 : okR 2 1 2 = true := by decide +kernel
theorem q213 : okR 2 1 3 = true := by decide +kernel
theorem q214 : okR 2 1 4 = true := by decide +kernel
theorem q220 : okR 2 2 0 = true := by decide +kernel
theorem q221 : okR 2 2 1 = true := by decide +kernel
theorem q222 : okR 2 2 2 = true := by decide +kernel
theorem q223 : okR 2 2 3 = true := by decide +kernel
theorem q224 : okR 2 2 4 = true := by decide +kernel
theorem q230 : okR 2 3 0 = true := by decide +kernel
theorem q231 : okR 2 3 1 = true := by decide +kernel
theorem q232 : okR 2 3 2 = true := by decide +kernel
theorem q233 : okR 2 3 3 = true := by decide +kernel
theorem q234 : okR 2 3 4 = true := by decide +kernel
theorem okAll {a b c d e : Nat} (ha : a < 3) (hb : b < 4) (hc : c < 5) (hd : d < 6) (he : e < 7) : ok5 a b c d e = true := by
  refine okR_get ?_ hd he
  have e1 : a = 0 ∨ a = 1 ∨ a = 2 := by omega
  have e2 : b = 0 ∨ b = 1 ∨ b = 2 ∨ b = 3 := by omega
  have e3 : c = 0 ∨ c = 1 ∨ c = 2 ∨ c = 3 ∨ c = 4 := by omega
  rcases e1 with rfl | rfl | rfl <;> rcases e2 with rfl | rfl | rfl | rfl <;> rcases e3 with rfl | rfl | rfl | rfl | rfl
  · exact q000
  · exact q001
  · exact q002
  · exact q003
  · exact q004
  · exact q010
  · exact q011
  · exact q012
  · exact q013
  · exact q014
  · exact q020
  · exact q021
  · exact q022
  · exact q023
  · exact q024
  · exact q030
  · exact q031
  · exact q032
  · exact q033
  · exact q034
  · exact q100
  · exact q101
  · exact q102
  · exact q103
  · exact q104
  · exact q110
  · exact q111
  · exact q112
  · exact q113
  · exact q114
  · exact q120
  · exact q121
  · exact q122
  · exact q123
  · exact q124
  · exact q130
  · exact q131
  · exact q132
  · exact q133
  · exact q134
  · exact q200
  · exact q201
  · exact q202
  · exact q203
  · exact q204
  · exact q210
  · exact q211
  · exact q212
  · exact q213
  · exact q214
  · exact q220
  · exact q221
  · exact q222
  · exact q223
  · exact q224
  · exact q230
  · exact q231
  · exact q232
  · exact q233
  · exact q234
theorem okDraw {ps : List Int} (h : Draw ps) : okL ps = true := by
  obtain ⟨p₀, p₁, p₂, p₃, p₄, rfl, h0, h1, h2, h3, h4⟩ := h
  have := okAll (a := p₀.toNat) (b := p₁.toNat) (c := p₂.toNat) (d := p₃.toNat) (e := p₄.toNat) (by omega) (by omega) (by omega) (by omega) (by omega)
  unfold ok5 at this
  rw [Int.toNat_of_nonneg h0.1, Int.toNat_of_nonneg h1.1, Int.toNat_of_nonneg h2.1, Int.toNat_of_nonneg h3.1, Int.toNat_of_nonneg h4.1] at this
  exact this
theorem drawn_laid : ∀ ps, Draw ps → ∃ T pk ar1 ar, Laid ps T pk ar1 ar := fun _ h => let ⟨T, pk, ar1, ar, hL, _⟩ := okL_sound (okDraw h); ⟨T, pk, ar1, ar, hL⟩
theorem drawn_text : ∀ ps, Draw ps → ∃ T, textF ps [] [] = some T := fun ps h => let ⟨T, _, _, _, hL⟩ := drawn_laid ps h; ⟨T, hL.text⟩
theorem drawn_told : ∀ ps T pk ar1 ar, Draw ps → Laid ps T pk ar1 ar → ∃ e1 e2, Told ps T pk ar e1 e2 := fun ps T pk ar1 ar h hL => by
  obtain ⟨T', pk', ar1', ar', hL', e1, e2, hT⟩ := okL_sound (okDraw h)
  obtain ⟨rfl, rfl, rfl⟩ := hL'.eq hL
  exact ⟨e1, e2, hT⟩
theorem whole : PySem.Challenge.rw_sn0035_01.Holds :=
  law_top fun w => seg0 w (seg3 w drawn_text (seg4 w drawn_laid (seg7 w (seg9a w (seg9b w drawn_told (seg10 w))))))
end Mine
theorem PySem.Challenge.cw_sn0035_01_holds : PySem.Challenge.rw_sn0035_01.Holds := by
  exact Mine.whole
