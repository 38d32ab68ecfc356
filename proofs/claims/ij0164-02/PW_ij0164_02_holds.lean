import PyProof.Rows.All
import Wide.All
import OpenK.AllK
import Wide.FinOn
import PySem.Challenge.RW_ij0164_02
open PySem PySem.W PyProof.Rows PySem.Spec PySem.Calls
set_option Elab.async false
set_option maxRecDepth 100000
set_option maxHeartbeats 8000000
namespace Mine
/-- what a call of f gives, for every caller's state -/
def Tel (prog : Program) (w : World) (K : Frag) (p : Program) (loose : List Str) (mean : ExcName → Option Value) (mg mb : Str → Option Value) (f : Addr) (k : Nat)
    (Rel : List (Addr × Obj) → List Value → Prop) (Out : List (Addr × Obj) → Value → Prop) : Prop :=
  ∀ (dp un : Nat) (gd : Option (List Code)) (cn : Str) (cs : Scope) (a : Addr) (ccd : Value) (cl : List (Str × Addr)) (outer : List Env) (A₀ : Around) (base h₀ : Heap) (L : Addr) (m : Str → Option Value) (news sub : List (Addr × Obj)) (s : Shared) (vs : List Value)
    (Q E : Value → Shared → Prop),
    Below A₀ base outer h₀ → Fr h₀ L s.heap m → K.In h₀ → News h₀ L s.heap news → Top p loose mean mg mb h₀ → cs.kind = .function → (∀ q ∈ sub, q ∈ news) → Rel sub vs → dp + k < recursionLimit → un + 8 * k < cLine →
    (∀ r tl h' tk', Fr h₀ L h' m → News h₀ L h' (news ++ tl) → (∀ q ∈ news, ∀ p ∈ tl, p.1 ≠ q.1) → Out (sub ++ tl) r → Q r { s with heap := h', toks := tk' }) →
    wpAny (model prog w) (ktrTop dp un gd cn cs L a ccd cl outer) (call (.ref f) vs) Q E s

section
variable {prog : Program} {w : World} {K : Frag} {p : Program} {loose : List Str} {mean : ExcName → Option Value} {mg mb : Str → Option Value} {f : Addr} {k : Nat} {Rel : List (Addr × Obj) → List Value → Prop} {Out : List (Addr × Obj) → Value → Prop}
theorem tel_use {dp un : Nat} {gd : Option (List Code)} {cn : Str} {cs : Scope} {a : Addr} {ccd : Value} {cl : List (Str × Addr)} {outer : List Env} {A₀ : Around} {base h₀ : Heap} {L : Addr} {m : Str → Option Value} {news sub : List (Addr × Obj)} {s : Shared} {vs : List Value}
    {Q E : Value → Shared → Prop} (C : Tel prog w K p loose mean mg mb f k Rel Out) (B : Below A₀ base outer h₀) (F : Fr h₀ L s.heap m) (X : K.In h₀) (N : News h₀ L s.heap news) (T : Top p loose mean mg mb h₀) (hk : cs.kind = .function) (hs : ∀ q ∈ sub, q ∈ news) (R : Rel sub vs)
    (hd : dp + k < recursionLimit) (hu : un + 8 * k < cLine)
    (ret : ∀ r tl h' tk', Fr h₀ L h' m → News h₀ L h' (news ++ tl) → (∀ q ∈ news, ∀ p ∈ tl, p.1 ≠ q.1) → Out (sub ++ tl) r → Q r { s with heap := h', toks := tk' }) :
    wpAny (model prog w) (ktrTop dp un gd cn cs L a ccd cl outer) (call (.ref f) vs) Q E s := C _ _ _ _ _ _ _ _ _ _ _ _ _ _ _ _ _ _ _ _ B F X N T hk hs R hd hu ret
end

section
variable {h₀ h : Heap} {L a : Addr} {o : Obj} {q : Addr × Obj} {news sub tl tl' : List (Addr × Obj)}
theorem tl0 (N : News h₀ L h news) : News h₀ L h (news ++ []) := by rw [List.append_nil]; exact N
theorem tl1 (N : News h₀ L h (q :: news)) : News h₀ L h (news ++ [q]) := fun p hp => N p ((List.mem_append.mp hp).elim (fun h => .tail _ h) fun h => by rw [List.mem_singleton.mp h]; exact .head _)
theorem newsTl {rest : List (Addr × Obj)} (N : News h₀ L h (q :: rest)) (hs : ∀ p ∈ news, p ∈ rest) : News h₀ L h (news ++ [q]) := fun p hp => N p ((List.mem_append.mp hp).elim (fun h => .tail _ (hs p h)) fun h => by rw [List.mem_singleton.mp h]; exact .head _)
theorem off0 : ∀ q ∈ news, ∀ p ∈ ([] : List (Addr × Obj)), p.1 ≠ q.1 := fun _ _ _ h => nomatch h
theorem off1 (h : AllLt a news) : ∀ q ∈ news, ∀ p ∈ [(a, o)], p.1 ≠ q.1 := by
  intro q hq p hp
  rw [List.mem_singleton.mp hp]
  exact fun e => Nat.ne_of_lt (ktn_ltOf h q hq) e.symm
theorem sub_l {l l' : List (Addr × Obj)} (h : ∀ p ∈ l, p ∈ l') : ∀ p ∈ l, p ∈ l' ++ tl := fun p hp => List.mem_append.mpr (.inl (h p hp))
theorem off1_lt : LCg.Off1 a news → ∀ p ∈ news, p.1 ≠ a := by
  induction news with
  | nil => intro _ p hp; cases hp
  | cons q r ih =>
    intro h p hp
    rcases List.mem_cons.mp hp with rfl | hp
    · exact h.1
    · exact ih h.2 p hp
end

/-- the end of a turn of a comprehension: the ledger has grown -/
def TurnEnd (h₀ : Heap) (L : Addr) (m : Str → Option Value) (s : Shared) (all : List (Addr × Obj)) (P : Value → List (Addr × Obj) → Prop) (y : Value) (s₂ : Shared) : Prop :=
  ∃ h' tk tl, s₂ = { s with heap := h', toks := tk } ∧ Fr h₀ L h' m ∧ News h₀ L h' (all ++ tl) ∧ (∀ q ∈ all, ∀ p ∈ tl, p.1 ≠ q.1) ∧ P y tl
theorem TurnEnd.intro {h₀ : Heap} {L : Addr} {m : Str → Option Value} {s : Shared} {all : List (Addr × Obj)} {P : Value → List (Addr × Obj) → Prop} {y : Value} {h' : Heap} {tk : Nat} (tl : List (Addr × Obj))
    (F : Fr h₀ L h' m) (N : News h₀ L h' (all ++ tl)) (o : ∀ q ∈ all, ∀ p ∈ tl, p.1 ≠ q.1) (hp : P y tl) : TurnEnd h₀ L m s all P y { s with heap := h', toks := tk } := ⟨h', tk, tl, rfl, F, N, o, hp⟩

theorem datAll_get {L : List (Addr × Obj)} {δ : Type} {enc : δ → Dat} {ds : List δ} : ∀ {vs : List Value}, DatAll L vs (ds.map enc) → ∀ {i : Nat} {v : Value}, vs[i]? = some v → ∃ d, ds[i]? = some d ∧ DatIn L v (enc d) := by
  induction ds with
  | nil => intro vs hd i v h; cases hd; cases h
  | cons d ds ih =>
    intro vs hd i v h
    cases hd with
    | cons h1 h2 =>
      cases i with
      | zero => cases h; exact ⟨d, rfl, h1⟩
      | succ i => exact ih h2 h
theorem datAll_ints {L : List (Addr × Obj)} {vs : List Value} {ns : List Int} (h : IntsAre vs ns) : DatAll L vs (ns.map Dat.int) := by
  induction h with
  | nil => exact .nil
  | cons i t _ ih => exact .cons (.int i t) ih

section
variable {prog : Program} {w : World} {A : Around} {h₀ : Heap} {L : Addr} {m : Str → Option Value} {env : Env} {elt ct : Expr} {x : Str} {scope : Scope} {cl : List (Str × Addr)} {s s₁ : Shared} {Fin : List Value → List (Addr × Obj) → Prop} {news sub : List (Addr × Obj)}

theorem off3_of {I C D : Addr} {oI oC oD : Obj} {nw tl : List (Addr × Obj)} (o : ∀ q ∈ (I, oI) :: (C, oC) :: (D, oD) :: nw, ∀ p ∈ tl, p.1 ≠ q.1) (h : LCg.Off3 I C D nw) : LCg.Off3 I C D (nw ++ tl) :=
  LCg.Off3.of fun p hp => (List.mem_append.mp hp).elim (fun hp => h.mem p hp) fun hp => ⟨o _ (.head _) p hp, o _ (.tail _ (.head _)) p hp, o _ (.tail _ (.tail _ (.head _))) p hp⟩

/-- a comprehension without a test over data: map -/
theorem comp_rest {δ : Type} {enc dec : δ → Dat} {ax : Addr} {vs : List Value} {ds : List δ} (hS : LCg.SrcAt h₀ ax vs.toArray news) (hsub : ∀ q ∈ sub, q ∈ news) (hd : DatAll sub vs (ds.map enc))
    (turn : ∀ v d I oI C oC D m₂ ys tl h tk (E' : Value → Shared → Prop), d ∈ ds → DatIn (sub ++ tl) v (enc d) → LCg.NsObj oC m₂ → m₂ x = some v → Fr h₀ L h m → News h₀ L h ((I, oI) :: (C, oC) :: (D, LCg.lst ys) :: (news ++ tl)) →
      wpAny (model prog w) A (eval elt (compEnvC scope cl C env)) (TurnEnd h₀ L m { s with heap := h, toks := tk } ((I, oI) :: (C, oC) :: (D, LCg.lst ys) :: (news ++ tl)) (fun y tl' => DatIn (sub ++ tl ++ tl') y (dec d))) E' { s with heap := h, toks := tk })
    (fin : ∀ ys tl, (∀ q ∈ news, ∀ p ∈ tl, p.1 ≠ q.1) → DatAll (sub ++ tl) ys (ds.map dec) → Fin ys (news ++ tl)) :
    LCg.CompRest prog w A h₀ L m env elt x scope cl s (LCg.SrcAt h₀ ax vs.toArray) (fun i v => vs.toArray[i]? = some v) Fin vs.toArray.size 0 [] news := by
  have hlen : vs.length = ds.length := by rw [hd.length, List.length_map]
  have key : ∀ (j i : Nat) (ys : List Value) (tl : List (Addr × Obj)), i + j = vs.length → (∀ q ∈ news, ∀ p ∈ tl, p.1 ≠ q.1) → DatAll (sub ++ tl) ys ((ds.take i).map dec) →
      LCg.CompRest prog w A h₀ L m env elt x scope cl s (LCg.SrcAt h₀ ax vs.toArray) (fun i v => vs.toArray[i]? = some v) Fin j i ys (news ++ tl) := by
    intro j
    induction j with
    | zero =>
      intro i ys tl hi ho hy
      have e : i = ds.length := by omega
      subst e
      rw [List.take_length] at hy
      exact LCg.CompRest.zero (fin ys tl ho hy)
    | succ j ih =>
      intro i ys tl hi ho hy
      refine LCg.CompRest.succ ?_
      intro v I oI C oC D m₂ h tk E' hv hC hx F N off ne
      have hv' : vs[i]? = some v := by simpa using hv
      obtain ⟨d, hdi, hdv⟩ := datAll_get hd hv'
      refine wpAny_mono (turn v d I oI C oC D m₂ ys tl h tk E' (List.mem_of_getElem? hdi) (DatIn.mono (fun p hp => List.mem_append.mpr (.inl hp)) hdv) hC hx F N) (fun y s₂ hq => ?_) fun _ _ e => e
      obtain ⟨h', tk', tl', rfl, F', N', o', hy'⟩ := hq
      refine ⟨h', tk', news ++ tl ++ tl', rfl, F', ?_, off3_of o' off, ?_, ?_⟩
      · intro p hp
        refine N' p ?_
        rcases List.mem_cons.mp hp with rfl | hp
        · exact .head _
        · rcases List.mem_cons.mp hp with rfl | hp
          · exact .tail _ (.head _)
          · rcases List.mem_cons.mp hp with rfl | hp
            · exact .tail _ (.tail _ (.head _))
            · exact .tail _ (.tail _ (.tail _ hp))
      · rcases hS with hS | ⟨o, hm, r⟩
        · exact .inl hS
        · exact .inr ⟨o, List.mem_append.mpr (.inl (List.mem_append.mpr (.inl hm))), r⟩
      · rw [List.append_assoc]
        refine ih (i + 1) _ (tl ++ tl') (by omega) ?_ ?_
        · intro q hq p hp
          rcases List.mem_append.mp hp with hp | hp
          · exact ho q hq p hp
          · exact o' q (.tail _ (.tail _ (.tail _ (List.mem_append.mpr (.inl hq))))) p hp
        · rw [List.take_add_one, hdi, List.map_append, ← List.append_assoc]
          refine DatAll.append (DatAll.mono (fun p hp => List.mem_append.mpr (.inl hp)) hy) ?_
          exact .one hy'
  have q := key vs.length 0 [] [] (by omega) off0 (by simp only [List.take_zero, List.map_nil]; exact .nil)
  rw [List.append_nil] at q
  rw [List.size_toArray]
  exact q

theorem src_U {δ : Type} {enc dec : δ → Dat} {ax : Addr} {vs : List Value} {ds : List δ} {kk : Nat} {Fi : Shared → List Value → List (Addr × Obj) → Prop} (hh : A.handled = none) (F : Fr h₀ L s₁.heap m) (N : News h₀ L s₁.heap news) (hl : (ax, listOf vs.toArray kk) ∈ news) (hsub : ∀ q ∈ sub, q ∈ news) (hd : DatAll sub vs (ds.map enc)) (hsz : ds.length ≤ 1000)
    (turn : ∀ v d I oI C oC D m₂ ys tl h tk (E' : Value → Shared → Prop), d ∈ ds → DatIn (sub ++ tl) v (enc d) → LCg.NsObj oC m₂ → m₂ x = some v → Fr h₀ L h m → News h₀ L h ((I, oI) :: (C, oC) :: (D, LCg.lst ys) :: (news ++ tl)) →
      wpAny (model prog w) A (eval elt (compEnvC scope cl C env)) (TurnEnd h₀ L m { s₁ with heap := h, toks := tk } ((I, oI) :: (C, oC) :: (D, LCg.lst ys) :: (news ++ tl)) (fun y tl' => DatIn (sub ++ tl ++ tl') y (dec d))) E' { s₁ with heap := h, toks := tk })
    (fin : ∀ (g : Heap) ys tl, (∀ q ∈ news, ∀ p ∈ tl, p.1 ≠ q.1) → DatAll (sub ++ tl) ys (ds.map dec) → Fi { s₁ with heap := g } ys (news ++ tl)) : LCg.CompSrc prog w A h₀ L m env elt x scope cl Fi (.ref ax) s₁ :=
  LCg.CompSrc.ledger hh F N hl (by
    have := hd.length
    rw [List.length_map] at this
    have h1 : vs.toArray.size = vs.length := List.size_toArray
    rw [h1, sizeLine_eq]; omega) fun g => comp_rest (.inr ⟨_, hl, rfl, _, rfl⟩) hsub hd turn (fin g)

/-- a comprehension with a test over a range -/
theorem comp_restT {n : Nat} {dec : Nat → Dat} {tst : Nat → Bool} (hsub : ∀ q ∈ sub, q ∈ news)
    (test : ∀ k t I oI C oC D m₂ ys tl h tk (E' : Value → Shared → Prop), k < n → LCg.NsObj oC m₂ → m₂ x = some (.int (k : Int) t) → Fr h₀ L h m → News h₀ L h ((I, oI) :: (C, oC) :: (D, LCg.lst ys) :: (news ++ tl)) →
      wpAny (model prog w) A (isTrue ct (compEnvC scope cl C env) (eval ct (compEnvC scope cl C env))) (fun ok s' => ok = tst k ∧ ∃ h' tk', s' = { s with heap := h', toks := tk' } ∧ Fr h₀ L h' m ∧ News h₀ L h' ((I, oI) :: (C, oC) :: (D, LCg.lst ys) :: (news ++ tl))) E' { s with heap := h, toks := tk })
    (turn : ∀ k t I oI C oC D m₂ ys tl h tk (E' : Value → Shared → Prop), k < n → tst k = true → LCg.NsObj oC m₂ → m₂ x = some (.int (k : Int) t) → Fr h₀ L h m → News h₀ L h ((I, oI) :: (C, oC) :: (D, LCg.lst ys) :: (news ++ tl)) →
      wpAny (model prog w) A (eval elt (compEnvC scope cl C env)) (TurnEnd h₀ L m { s with heap := h, toks := tk } ((I, oI) :: (C, oC) :: (D, LCg.lst ys) :: (news ++ tl)) (fun y tl' => DatIn (sub ++ tl ++ tl') y (dec k))) E' { s with heap := h, toks := tk })
    (fin : ∀ ys tl, (∀ q ∈ news, ∀ p ∈ tl, p.1 ≠ q.1) → DatAll (sub ++ tl) ys (((List.range n).filter tst).map dec) → Fin ys (news ++ tl)) :
    LCt.CompRestT prog w A h₀ L m env ct elt x scope cl s (fun _ => True) (fun i v => ∃ t, v = .int (0 + (i : Int)) t) Fin n 0 [] news := by
  have key : ∀ (j i : Nat) (ys : List Value) (tl : List (Addr × Obj)), i + j = n → (∀ q ∈ news, ∀ p ∈ tl, p.1 ≠ q.1) → DatAll (sub ++ tl) ys (((List.range i).filter tst).map dec) →
      LCt.CompRestT prog w A h₀ L m env ct elt x scope cl s (fun _ => True) (fun i v => ∃ t, v = .int (0 + (i : Int)) t) Fin j i ys (news ++ tl) := by
    intro j
    induction j with
    | zero =>
      intro i ys tl hi ho hy
      have e : i = n := by omega
      subst e
      exact LCt.CompRestT.zero (fin ys tl ho hy)
    | succ j ih =>
      intro i ys tl hi ho hy
      refine LCt.CompRestT.succ ?_
      rintro v I oI C oC D m₂ h tk E' ⟨t, rfl⟩ hC hx F N off ne
      rw [Int.zero_add] at hx
      have hin : i < n := by omega
      refine wpAny_mono (test i t I oI C oC D m₂ ys tl h tk E' hin hC hx F N) (fun ok s₂ hq => ?_) fun _ _ e => e
      obtain ⟨rfl, h₁, tk₁, rfl, F₁, N₁⟩ := hq
      cases hb : tst i with
      | true =>
        rw [if_pos rfl]
        refine wpAny_mono (turn i t I oI C oC D m₂ ys tl h₁ tk₁ E' hin hb hC hx F₁ N₁) (fun y s₂ hq => ?_) fun _ _ e => e
        obtain ⟨h', tk', tl', rfl, F', N', o', hy'⟩ := hq
        refine ⟨h', tk', news ++ tl ++ tl', rfl, F', ?_, off3_of o' off, trivial, ?_⟩
        · intro p hp
          refine N' p ?_
          rcases List.mem_cons.mp hp with rfl | hp
          · exact .head _
          · rcases List.mem_cons.mp hp with rfl | hp
            · exact .tail _ (.head _)
            · rcases List.mem_cons.mp hp with rfl | hp
              · exact .tail _ (.tail _ (.head _))
              · exact .tail _ (.tail _ (.tail _ hp))
        · rw [List.append_assoc]
          refine ih (i + 1) _ (tl ++ tl') (by omega) ?_ ?_
          · intro q hq p hp
            rcases List.mem_append.mp hp with hp | hp
            · exact ho q hq p hp
            · exact o' q (.tail _ (.tail _ (.tail _ (List.mem_append.mpr (.inl hq))))) p hp
          · rw [List.range_succ, List.filter_append, List.map_append, ← List.append_assoc]
            refine DatAll.append (DatAll.mono (fun p hp => List.mem_append.mpr (.inl hp)) hy) ?_
            have e : List.filter tst [i] = [i] := by simp [hb]
            rw [e]
            exact .one hy'
      | false =>
        rw [if_neg Bool.false_ne_true]
        refine ⟨h₁, tk₁, news ++ tl, rfl, F₁, N₁, off, trivial, ?_⟩
        refine ih (i + 1) ys tl (by omega) ho ?_
        rw [List.range_succ, List.filter_append]
        have e : List.filter tst [i] = [] := by simp [hb]
        rw [e, List.append_nil]
        exact hy
  have q := key n 0 [] [] (by omega) off0 (by simp; exact .nil)
  rw [List.append_nil] at q
  exact q
end
section
variable {h₀ h : Heap} {L a : Addr} {o : Obj} {q : Addr × Obj} {news sub tl tl' : List (Addr × Obj)}
theorem newsIn {l l' : List (Addr × Obj)} (N : News h₀ L h l) (hs : ∀ p ∈ l', p ∈ l) : News h₀ L h l' := fun p hp => N p (hs p hp)
theorem in1 : ∀ p ∈ news ++ q :: tl, p ∈ q :: (news ++ tl) := by
  intro p hp
  rcases List.mem_append.mp hp with hp | hp
  · exact .tail _ (List.mem_append.mpr (.inl hp))
  · rcases List.mem_cons.mp hp with rfl | hp
    · exact .head _
    · exact .tail _ (List.mem_append.mpr (.inr hp))
theorem in2 : ∀ p ∈ sub ++ tl, p ∈ sub ++ q :: tl := by
  intro p hp
  rcases List.mem_append.mp hp with hp | hp
  · exact List.mem_append.mpr (.inl hp)
  · exact List.mem_append.mpr (.inr (.tail _ hp))
theorem offIn (ho : ∀ q ∈ news, ∀ p ∈ tl, p.1 ≠ q.1) (h : ∀ p ∈ news ++ tl, p.1 ≠ a) : ∀ q ∈ news, ∀ p ∈ (a, o) :: tl, p.1 ≠ q.1 := by
  intro q hq p hp
  rcases List.mem_cons.mp hp with rfl | hp
  · exact fun e => h q (List.mem_append.mpr (.inl hq)) e.symm
  · exact ho q hq p hp
end
/-! data and their equality -/
def okD : Nat → Dat → Bool
  | _, .none => true
  | _, .bool _ => true
  | _, .int _ => true
  | _, .str x => PyData.strOk x
  | n + 1, .tuple ds => ds.all (okD n)
  | n + 1, .list ds => ds.all (okD n)
  | _, _ => false
section
variable {h₀ h : Heap} {L : Addr} {news : List (Addr × Obj)}
theorem rd_step (N : News h₀ L h news) {n : Nat} (ih : ∀ {v : Value} {d : Dat}, DatIn news v d → okD n d = true → ∃ as, Reads h v (kqdP d) as) {ds : List Dat} : ∀ {vs : List Value}, DatAll news vs ds → (∀ d ∈ ds, okD n d = true) → ∃ as, ReadsAll h vs (kqdPs ds) as := by
  induction ds with
  | nil => intro vs D _; cases D; exact ⟨_, ReadsAll.nil⟩
  | cons d ds hi =>
    intro vs D hk
    cases D with
    | cons hd r =>
      obtain ⟨as, q⟩ := ih hd (hk _ (.head _))
      obtain ⟨bs, p⟩ := hi r fun d hm => hk d (.tail _ hm)
      rw [kqdPs]
      exact ⟨_, ReadsAll.cons q p⟩
theorem rd_in (N : News h₀ L h news) (n : Nat) : ∀ {v : Value} {d : Dat}, DatIn news v d → okD n d = true → ∃ as, Reads h v (kqdP d) as := by
  induction n with
  | zero =>
    intro v d hd hk
    cases hd with
    | none => exact ⟨_, Reads.none⟩
    | bool b => exact ⟨_, Reads.bool b⟩
    | int i t => exact ⟨_, Reads.int i t⟩
    | str x t => exact ⟨_, Reads.str x t⟩
    | _ => exact absurd hk Bool.false_ne_true
  | succ n ih =>
    intro v d hd hk
    cases hd with
    | none => exact ⟨_, Reads.none⟩
    | bool b => exact ⟨_, Reads.bool b⟩
    | int i t => exact ⟨_, Reads.int i t⟩
    | str x t => exact ⟨_, Reads.str x t⟩
    | bytes b t => exact absurd hk Bool.false_ne_true
    | tuple hm r =>
      obtain ⟨as, q⟩ := rd_step N ih r (List.all_eq_true.mp hk)
      rw [kqdP]
      exact ⟨as, reads_tuple_at (N.get hm) rfl rfl q⟩
    | list hm r =>
      obtain ⟨as, q⟩ := rd_step N ih r (List.all_eq_true.mp hk)
      rw [kqdP]
      exact ⟨_, reads_list_at (N.get hm) rfl rfl q⟩
theorem rd_all (N : News h₀ L h news) {vs : List Value} {ds : List Dat} (n : Nat) (D : DatAll news vs ds) (hk : ∀ d ∈ ds, okD n d = true) : ∃ as, ReadsAll h vs (kqdPs ds) as := rd_step N (rd_in N n) D hk
end
theorem okD_all {n : Nat} (hn : ∀ d, okD n d = true → (kqdP d).canLay0 = true ∧ (kqdP d).depth ≤ n) : ∀ ds : List Dat, (∀ d ∈ ds, okD n d = true) → PyData.canLayAll0 (kqdPs ds) = true ∧ PyData.depthAll (kqdPs ds) ≤ n
  | [], _ => by simp [kqdPs, PyData.canLayAll0, PyData.depthAll]
  | d :: ds, h => by
    have h1 := hn d (h d (.head _))
    have h2 := okD_all hn ds fun e he => h e (.tail _ he)
    have a1 := h1.2
    have a2 := h2.2
    simp only [kqdPs, PyData.canLayAll0, PyData.depthAll, h1.1, h2.1, Bool.and_self, true_and]
    omega
theorem okD_lay : ∀ (n : Nat) (d : Dat), okD n d = true → (kqdP d).canLay0 = true ∧ (kqdP d).depth ≤ n := by
  intro n
  induction n with
  | zero => intro d h; cases d <;> simp_all [okD, kqdP, PyData.canLay0, PyData.depth]
  | succ n ih =>
    intro d h
    cases d with
    | none => simp [kqdP, PyData.canLay0, PyData.depth]
    | bool b => simp [kqdP, PyData.canLay0, PyData.depth]
    | int i => simp [kqdP, PyData.canLay0, PyData.depth]
    | str x => simp [okD] at h; simp [kqdP, PyData.canLay0, PyData.depth, h]
    | bytes b => simp [okD] at h
    | tuple ds =>
      have q := okD_all ih ds (by simpa [okD] using h)
      have q2 := q.2
      simp only [kqdP, PyData.canLay0, PyData.depth, q.1, true_and]
      omega
    | list ds =>
      have q := okD_all ih ds (by simpa [okD] using h)
      have q2 := q.2
      simp only [kqdP, PyData.canLay0, PyData.depth, q.1, true_and]
      omega
section
variable {prog : Program} {w : World} {A : Around} {E : Value → Shared → Prop} {s : Shared} {h₀ : Heap} {L : Addr} {news n₁ n₂ : List (Addr × Obj)} {a b : Value} {da db : Dat} {ds : List Dat} {Q : Value → Shared → Prop}
theorem shaped_okD {n : Nat} (hn : n ≤ 64) {d : Dat} (h : okD n d = true) : SeqAt.shaped (kqdP d) = true := by
  have l := okD_lay n d h
  unfold SeqAt.shaped
  rw [l.1, Bool.true_and]
  exact decide_eq_true (Nat.le_trans l.2 hn)
theorem d_eq (N : News h₀ L s.heap news) (Da : DatIn n₁ a da) (sa : ∀ p ∈ n₁, p ∈ news) (Db : DatIn n₂ b db) (sb : ∀ p ∈ n₂, p ∈ news) (ha : okD 8 da = true) (hb : okD 8 db = true) (hu : A.units + 64 < cLine)
    (h : Q (.bool (PyData.eqv (kqdP da) (kqdP db))) s) : wpAny (model prog w) A (compareOp .Eq a b) Q E s := by
  obtain ⟨as, ra⟩ := rd_in N 8 (Da.mono sa) ha
  obtain ⟨bs, rb⟩ := rd_in N 8 (Db.mono sb) hb
  exact eq_dataH ra rb (shaped_okD (by decide) ha) (shaped_okD (by decide) hb) hu h
theorem d_ne (N : News h₀ L s.heap news) (Da : DatIn n₁ a da) (sa : ∀ p ∈ n₁, p ∈ news) (Db : DatIn n₂ b db) (sb : ∀ p ∈ n₂, p ∈ news) (ha : okD 8 da = true) (hb : okD 8 db = true) (hu : A.units + 64 < cLine)
    (h : Q (.bool (!PyData.eqv (kqdP da) (kqdP db))) s) : wpAny (model prog w) A (compareOp .NotEq a b) Q E s := by
  obtain ⟨as, ra⟩ := rd_in N 8 (Da.mono sa) ha
  obtain ⟨bs, rb⟩ := rd_in N 8 (Db.mono sb) hb
  exact ne_dataH ra rb (shaped_okD (by decide) ha) (shaped_okD (by decide) hb) hu h
theorem d_listLay (ha : ∀ d ∈ ds, okD 8 d = true) : PyData.canLayAll0 (kqdPs ds) = true ∧ PyData.depthAll (kqdPs ds) ≤ 8 := okD_all (okD_lay 8) ds ha
theorem d_in (N : News h₀ L s.heap news) (Da : DatIn n₁ a da) (sa : ∀ p ∈ n₁, p ∈ news) (Db : DatIn n₂ b (.list ds)) (sb : ∀ p ∈ n₂, p ∈ news) (ha : okD 8 da = true) (hb : ∀ d ∈ ds, okD 8 d = true) (hu : A.units + 64 < cLine)
    (h : Q (.bool ((kqdPs ds).any fun y => PyData.eqv y (kqdP da))) s) : wpAny (model prog w) A (compareOp .In a b) Q E s := by
  obtain ⟨as, ra⟩ := rd_in N 8 (Da.mono sa) ha
  obtain ⟨bs, rb⟩ := rd_in N 9 (Db.mono sb) (by simpa [okD] using hb)
  have l := d_listLay hb
  rw [kqdP] at rb
  refine SeqAt.in_list_reads rb ra l.1 (okD_lay 8 _ ha).1 ?_ h
  have := Nat.min_le_left (PyData.depthAll (kqdPs ds)) (kqdP da).depth
  have := l.2
  omega
theorem d_notIn (N : News h₀ L s.heap news) (Da : DatIn n₁ a da) (sa : ∀ p ∈ n₁, p ∈ news) (Db : DatIn n₂ b (.list ds)) (sb : ∀ p ∈ n₂, p ∈ news) (ha : okD 8 da = true) (hb : ∀ d ∈ ds, okD 8 d = true) (hu : A.units + 64 < cLine)
    (h : Q (.bool (!(kqdPs ds).any fun y => PyData.eqv y (kqdP da))) s) : wpAny (model prog w) A (compareOp .NotIn a b) Q E s := by
  obtain ⟨as, ra⟩ := rd_in N 8 (Da.mono sa) ha
  obtain ⟨bs, rb⟩ := rd_in N 9 (Db.mono sb) (by simpa [okD] using hb)
  have l := d_listLay hb
  rw [kqdP] at rb
  refine SeqAt.notIn_list_reads rb ra l.1 (okD_lay 8 _ ha).1 ?_ h
  have := Nat.min_le_left (PyData.depthAll (kqdPs ds)) (kqdP da).depth
  have := l.2
  omega
end
def flat : Dat → Bool
  | .none => true | .bool _ => true | .int _ => true | .str _ => true | _ => false
theorem datIn_flat {L L' : List (Addr × Obj)} {v : Value} {d : Dat} (h : DatIn L v d) (hf : flat d = true) : DatIn L' v d := by
  cases h with
  | none => exact .none
  | bool b => exact .bool b
  | int i t => exact .int i t
  | str x t => exact .str x t
  | bytes b t => cases hf
  | tuple _ _ => cases hf
  | list _ _ => cases hf
/-! what is known of an argument -/
section
variable {L : List (Addr × Obj)} {v : Value} {vs : List Value}
theorem inv1 {d : Dat} (h : DatAll L vs [d]) : ∃ v, vs = [v] ∧ DatIn L v d := by
  cases h with
  | cons h1 h2 => cases h2; exact ⟨_, rfl, h1⟩
theorem inv2 {d e : Dat} (h : DatAll L vs [d, e]) : ∃ v u, vs = [v, u] ∧ DatIn L v d ∧ DatIn L u e := by
  cases h with
  | cons h1 h2 =>
    obtain ⟨u, rfl, h3⟩ := inv1 h2
    exact ⟨_, _, rfl, h1, h3⟩
theorem invI {i : Int} (h : DatIn L v (.int i)) : ∃ t, v = .int i t := by cases h; exact ⟨_, rfl⟩
theorem invB {b : Bool} (h : DatIn L v (.bool b)) : v = .bool b := by cases h; rfl
theorem invS {x : Str} (h : DatIn L v (.str x)) : ∃ t, v = .str x t := by cases h; exact ⟨_, rfl⟩
theorem invL {ds : List Dat} (h : DatIn L v (.list ds)) : ∃ a us n, v = .ref a ∧ (a, W.listOf us.toArray n) ∈ L ∧ DatAll L us ds := by cases h with | list hm r => exact ⟨_, _, _, rfl, hm, r⟩
theorem inv3 {i j k : Int} (h : DatIn L v (.tuple [.int i, .int j, .int k])) : ∃ a t1 t2 t3 n, v = .ref a ∧ (a, ({ cls := .type "tuple", data := .seq [Value.int i t1, Value.int j t2, Value.int k t3].toArray n } : Obj)) ∈ L := by
  cases h with
  | tuple hm r =>
    cases r with
    | cons h1 r =>
      obtain ⟨_, _, rfl, h2, h3⟩ := inv2 r
      obtain ⟨_, rfl⟩ := invI h1
      obtain ⟨_, rfl⟩ := invI h2
      obtain ⟨_, rfl⟩ := invI h3
      exact ⟨_, _, _, _, _, rfl, hm⟩
end

abbrev mwObj (id : String) (v : Value) : Obj := { cls := .type "method-wrapper", data := .fields #[.builtin id, v] }
theorem ga_entry_get : entryFor table "wrapper_descriptor.__get__" = some Builtin.«wrapper_descriptor.__get__» := entryFor_of_tree (by kernel_rfl)
theorem ga_get : typeLookup (.type "wrapper_descriptor") "__get__" = pure (some (.builtin "wrapper_descriptor.__get__")) := by rw [typeLookup_type, builtinLookup_eq_fast]; kernel_rfl
theorem ga_set : typeLookup (.type "wrapper_descriptor") "__set__" = pure none := by rw [typeLookup_type, builtinLookup_eq_fast]; kernel_rfl
theorem ga_delete : typeLookup (.type "wrapper_descriptor") "__delete__" = pure none := by rw [typeLookup_type, builtinLookup_eq_fast]; kernel_rfl
theorem ga_type : typeOf (.builtin "list.__contains__") = pure (.type "wrapper_descriptor") := by kernel_rfl
theorem ga_check (a : Addr) : checkBuiltinCall "wrapper_descriptor.__get__" ⟨[.builtin "list.__contains__", .ref a, .type "list"], []⟩ = pure () := by kernel_rfl
theorem ga_meets (a : Addr) (xs : Array Value) (k : Nat) (u : Tok) :
    Meets (Builtin.«object.__getattribute__» ⟨[.ref a, .str (Str.ofString "__contains__") u], []⟩) (fun A R s => s.heap.get? a = some { cls := .type "list", dict := none, data := .seq xs k, slots := #[] } ∧ ∀ tk, R (.ok (.ret (.ref s.heap.objs.size))) { s with heap := s.heap.push (mwObj "list.__contains__" (.ref a)), toks := tk }) :=
  Meets.of_wp fun prog w A R s hs => by
    obtain ⟨hp, g, d, tk, os⟩ := s
    obtain ⟨hx, hs⟩ := hs
    have hT : (⟨hp, g, d, tk, os⟩ : Shared).TypeIs (.ref a) "list" := ⟨_, hx, rfl⟩
    have f1 := F.slot_list_contains.lookup
    have f2 := ga_get
    have f3 := ga_set
    have f4 := ga_delete
    have f5 := ga_type
    unfold Builtin.«object.__getattribute__»
    repeat (any_goals (first | assumption | wp_step))
    refine codeAny_call_builtin (by decide +kernel) ga_entry_get (wpAny_of_eq (ga_check a) ?_)
    unfold Builtin.«wrapper_descriptor.__get__»
    have e6 : (".".intercalate ("list.__contains__".cutAt '.').dropLast) = "list" := by decide +kernel
    have f6 : isSubtype (.type "list") (.type (".".intercalate ("list.__contains__".cutAt '.').dropLast)) = pure true := by rw [e6, isSubtype_type]; kernel_rfl
    repeat (any_goals (first | assumption | exact hT | wp_step))
    exact ⟨_, rfl, hs _⟩
theorem ga_contains {prog : Program} {w : World} {A : Around} {E : Value → Shared → Prop} {s : Shared} {l : Addr} {xs : Array Value} {k : Nat} {Q : Value → Shared → Prop}
    (hx : s.heap.get? l = some { cls := .type "list", dict := none, data := .seq xs k, slots := #[] })
    (h : ∀ tk, Q (.ref s.heap.objs.size) { s with heap := s.heap.push (mwObj "list.__contains__" (.ref l)), toks := tk }) : wpAny (model prog w) A (getAttr (.ref l) (Str.ofString "__contains__") true) Q E s := by
  obtain ⟨hp, g, d, tk, os⟩ := s
  have hT : ∀ tk', (⟨hp, g, d, tk', os⟩ : Shared).TypeIs (.ref l) "list" := fun _ => ⟨_, hx, rfl⟩
  have f1 := F.slot_list_contains.lookup
  have f3 := F.slot_list_getattribute.lookup
  have f4 := F.slot_list_getattribute.bind (.ref l)
  have f5 := am_list_getattr_none
  unfold getAttr getAttrBy
  repeat (any_goals (first | assumption | exact hT _ | ((with_reducible show wpAny _ _ (call (Value.builtin "list.__getattribute__") _ _) _ _ _); refine call_meets F.slot_list_getattribute (hT _) am_entry_list_getattribute (F.args_list_getattribute_2 _ _) (ga_meets l xs k _) ⟨hx, fun tk' => ?_⟩) | wp_step))
  exact wpAny_pure (h _)
theorem mw_contains {prog : Program} {w : World} {A : Around} {E : Value → Shared → Prop} {s : Shared} {q l : Addr} {xs : Array Value} {k : Nat} {v : Value} {e : Value → Bool} {Q : Value → Shared → Prop}
    (hq : s.heap.get? q = some (mwObj "list.__contains__" (.ref l))) (hx : s.heap.get? l = some { cls := .type "list", dict := none, data := .seq xs k, slots := #[] })
    (he : ∀ y, y ∈ xs → SeqAt.EqAt A.in1 s y v (e y)) (h : Q (.bool (xs.any e)) s) : wpAny (model prog w) A (call (.ref q) [v]) Q E s := by
  refine wpAny_call (codeAny_of_tree ?_)
  show wpAny _ _ (callAny (.ref q) ⟨[v], []⟩) _ _ _
  unfold callAny
  obtain ⟨hp, g, d, tk, os⟩ := s
  repeat (any_goals (first | assumption | wp_step))
  have hp' : plainId "list.__contains__" = true := by decide +kernel
  refine ⟨plainId_quiet hp' _, codeAny_builtin F.entry_list_contains ?_⟩
  rw [Around.under_plainId hp' _]
  exact SeqAt.list_containsAt l xs k none #[] v e prog w A _ _ ⟨hx, he, h⟩
section
variable {prog : Program} {w : World} {A : Around} {E : Value → Shared → Prop} {s : Shared} {h₀ : Heap} {L : Addr} {m : Str → Option Value} {news n₁ n₂ : List (Addr × Obj)} {Q : Value → Shared → Prop}
theorem ga_containsN {l : Addr} {xs : Array Value} {k : Nat} (F : Fr h₀ L s.heap m) (N : News h₀ L s.heap news) (hm : (l, W.listOf xs k) ∈ news)
    (h : ∀ q h' tk, Fr h₀ L h' m → News h₀ L h' ((q, mwObj "list.__contains__" (.ref l)) :: news) → (∀ p ∈ news, p.1 < q) → Q (.ref q) { s with heap := h', toks := tk }) : wpAny (model prog w) A (getAttr (.ref l) (Str.ofString "__contains__") true) Q E s :=
  ga_contains (N.get hm) fun tk => h _ _ tk (F.push _) (N.push F _) fun p hp => Heap.lt_size (N p hp).1
theorem mw_data {q l : Addr} {vs : List Value} {ds : List Dat} {k : Nat} {v : Value} {d : Dat} (N : News h₀ L s.heap news) (hq : (q, mwObj "list.__contains__" (.ref l)) ∈ news) (hm : (l, W.listOf vs.toArray k) ∈ news)
    (D : DatAll n₁ vs ds) (s1 : ∀ p ∈ n₁, p ∈ news) (Dv : DatIn n₂ v d) (s2 : ∀ p ∈ n₂, p ∈ news) (h1 : ∀ d ∈ ds, okD 8 d = true) (h2 : okD 8 d = true) (hu : A.units + 64 < cLine)
    (h : Q (.bool ((kqdPs ds).any fun y => PyData.eqv y (kqdP d))) s) : wpAny (model prog w) A (call (.ref q) [v]) Q E s := by
  obtain ⟨as, ra⟩ := rd_all N 8 (D.mono s1) h1
  obtain ⟨bs, rb⟩ := rd_in N 8 (Dv.mono s2) h2
  have l1 := d_listLay h1
  refine mw_contains (N.get hq) (N.get hm) (SeqAt.items_eqAt (by simpa using ra) rb l1.1 (okD_lay 8 _ h2).1 ?_) ?_
  · have := Nat.min_le_left (PyData.depthAll (kqdPs ds)) (kqdP d).depth
    have := l1.2
    omega
  · rw [SeqAt.any_by_data (by simpa using ra) l1.1]
    exact h
end
def WrapAt (q : Addr) (h : Heap) : Prop := ∃ id v, h.get? q = some (mwObj id v)
theorem WrapAt.of {h₀ h : Heap} {L q : Addr} {id : String} {v : Value} {news : List (Addr × Obj)} (N : News h₀ L h news) (hm : (q, mwObj id v) ∈ news) : WrapAt q h := ⟨id, v, N.get hm⟩
theorem keeps_W {M : Model} {q : Addr} (h : Heap) (X : WrapAt q h) : ∃ k, (k = Keeper.frame ∨ k = Keeper.machine ∨ k = Keeper.boundFrame) ∧ Looks M h (keeperOf (.ref q)) k := by
  obtain ⟨id, v, e⟩ := X
  exact ⟨.machine, .inr (.inl rfl), (Looks.ld (part := none) e).andThen .now⟩
theorem callWith_W {M : Model} {A : Around} {E : Value → Shared → Prop} {s : Shared} {env : Env} {pos : Pos} {first : List Value} {Q : Value → Shared → Prop} {q : Addr} {e : Expr} {rest : List Expr} (_X : WrapAt q s.heap) (h : wpAny M A (spliced (backTo pos (starEach (e :: rest) env))) (fun vs s₁ => WrapAt q s₁.heap ∧ wpAny M A (call (.ref q) (first ++ vs)) Q E s₁) E s)
    (he : starEach (e :: rest) env = (false, eval e env) :: starEach rest env := by rfl) (hplain : (backTo pos (starEach rest env)).any (·.1) = false := by rfl) :
    wpAny M A (callWith pos (.ref q) first (backTo pos (starEach (e :: rest) env)) []) Q E s := by
  rw [he] at h ⊢
  exact callWith_of (by show ((false || (backTo pos (starEach rest env)).any (·.1)) || false) = false; rw [hplain]; rfl) keeps_W (evalArgs_plain h)

abbrev itO (l : Addr) (i : Nat) : Obj := { cls := .type "list_iterator", data := .fields #[.ref l, .int (i : Int) 0] }
abbrev itE (i : Nat) : Obj := { cls := .type "list_iterator", data := .fields #[.none, .int (i : Int) 0] }
section
variable {prog : Program} {w : World} {A : Around} {E : Value → Shared → Prop} {s : Shared} {Q : Value → Shared → Prop} {I l : Addr} {i : Nat} {vs : Array Value}
theorem next_item {v : Value} (hit : s.heap.get? I = some (itO l i)) (hl : s.heap.IsList l vs) (hx : vs[i]? = some v)
    (h : ∀ h', h'.get? I = some (itO l (i + 1)) → Heap.SameBut I s.heap h' → Q v { s with heap := h' }) : wpAny (model prog w) A (call (.builtin "next") [.ref I]) Q E s := by
  obtain ⟨ol, hol, _, nl, hdl⟩ := hl
  have hT : s.TypeIs (.ref I) "list_iterator" := ⟨_, hit, rfl⟩
  refine call_function_entry (by decide +kernel) (by decide +kernel) kdk_entry_next (kdk_args_next _) ?_
  unfold Builtin.«next»
  refine wpAny_bind (m := someArgs "next" 1 2 _) (wpAny_of_eq (a := [Value.ref I]) (by first | rfl | kernel_rfl!) ?_)
  dsimp only
  refine wpAny_bind (wpAny_specialOf (name := Str.ofString "__next__") hT slot_listiter_next.lookup ?_)
  refine wpAny_ite_split (fun hab => absurd hab (by decide)) (fun _ => ?_)
  refine wpAny_bind (wpAny_callSpecial?_slot (name := Str.ofString "__next__") hT slot_listiter_next
    (wpAny_call_entry slot_listiter_next hT entry_listiter_next ?_ (args_listiter_next _)))
  show wpAny _ _ (field (.ref I) 0 >>= _) _ _ s
  refine wpAny_bind (wpAny_field hit rfl (x := .ref l) rfl ?_)
  show wpAny _ _ (if (Value.ref l == Value.none) = true then _ else _) _ _ s
  rw [if_neg (show ¬ ((Value.ref l == Value.none) = true) from Bool.false_ne_true)]
  show wpAny _ _ (field (.ref I) 1 >>= _) _ _ s
  refine wpAny_bind (wpAny_field hit rfl (x := .int i 0) rfl ?_)
  show wpAny _ _ (seqItems? (.ref l) >>= _) _ _ s
  refine wpAny_bind (wpAny_seqItems hol hdl ?_)
  simp only [Int.toNat_natCast, hx]
  refine wpAny_bind (wpAny_setField hit rfl (by simp) (wpAny_pure ⟨v, rfl, wpAny_pure ⟨_, rfl, h _ ?_ (Heap.SameBut.update ..)⟩⟩))
  rw [Heap.get?_update_self _ hit rfl]
  simp [Obj.mapFields, rawInt]
theorem next_end (hh : A.handled = none) (hit : s.heap.get? I = some (itO l i)) (hl : s.heap.IsList l vs) (hx : vs[i]? = none)
    (h : ∀ h₁, h₁.get? I = some (itE i) → Heap.SameBut I s.heap h₁ → ∀ h' e, Heap.MadeExc h₁ h' e "StopIteration" [] → E (.ref e) { s with heap := h' }) : wpAny (model prog w) A (call (.builtin "next") [.ref I]) Q E s := by
  obtain ⟨ol, hol, _, nl, hdl⟩ := hl
  have hT : s.TypeIs (.ref I) "list_iterator" := ⟨_, hit, rfl⟩
  refine call_function_entry (by decide +kernel) (by decide +kernel) kdk_entry_next (kdk_args_next _) ?_
  unfold Builtin.«next»
  refine wpAny_bind (m := someArgs "next" 1 2 _) (wpAny_of_eq (a := [Value.ref I]) (by first | rfl | kernel_rfl!) ?_)
  dsimp only
  refine wpAny_bind (wpAny_specialOf (name := Str.ofString "__next__") hT slot_listiter_next.lookup ?_)
  refine wpAny_ite_split (fun hab => absurd hab (by decide)) (fun _ => ?_)
  refine wpAny_bind (wpAny_callSpecial?_slot (name := Str.ofString "__next__") hT slot_listiter_next
    (wpAny_call_entry slot_listiter_next hT entry_listiter_next ?_ (args_listiter_next _)))
  show wpAny _ _ (field (.ref I) 0 >>= _) _ _ s
  refine wpAny_bind (wpAny_field hit rfl (x := .ref l) rfl ?_)
  show wpAny _ _ (if (Value.ref l == Value.none) = true then _ else _) _ _ s
  rw [if_neg (show ¬ ((Value.ref l == Value.none) = true) from Bool.false_ne_true)]
  show wpAny _ _ (field (.ref I) 1 >>= _) _ _ s
  refine wpAny_bind (wpAny_field hit rfl (x := .int i 0) rfl ?_)
  show wpAny _ _ (seqItems? (.ref l) >>= _) _ _ s
  refine wpAny_bind (wpAny_seqItems hol hdl ?_)
  simp only [Int.toNat_natCast, hx]
  refine wpAny_bind (wpAny_rule (wpAny_bind (wpAny_setField hit rfl (by simp) ?_)))
  show wpAny _ _ (newExc (.type "StopIteration") [] >>= _) _ _ _
  refine wpAny_bind ?_
  simp only [newExc, newTuple]
  refine wpAny_bind (wpAny_newObj_type ?_ (by size_fits))
  refine wpAny_bind (m := firstArgMember _ _) (wpAny_of_eq (a := Value.none) (by first | rfl | (simp only [firstArgMember]; rfl)) ?_)
  refine wpAny_newObj_type ?_ (by size_fits)
  simp only [raiseNew]
  refine wpAny_bind (wpAny_handled ?_)
  rw [show A.in1.in1.handled = none from hh]
  refine wpAny_bind (wpAny_pure (wpAny_throw ?_))
  refine h (s.heap.update I (Obj.mapFields (·.setIfInBounds 0 .none))) ?_ (Heap.SameBut.update ..) _ _ ⟨fun b o hb => ?_, ?_, ?_⟩
  · rw [Heap.get?_update_self _ hit rfl]
    simp [Obj.mapFields]
  · exact Heap.get?_push_of_some _ (Heap.get?_push_of_some _ hb)
  · exact Heap.get?_none_of_le (by rw [Heap.size_push]; exact Nat.le_succ _)
  · refine ⟨_, Heap.get?_push_size _ rfl, Heap.get?_none_of_le (Nat.le_refl _), ?_⟩
    exact Heap.get?_push_of_some _ (Heap.get?_push_size _ rfl)
end
section
variable {prog : Program} {w : World} {A : Around} {E : Value → Shared → Prop} {s : Shared} {h₀ : Heap} {L : Addr} {m : Str → Option Value} {news rest : List (Addr × Obj)} {Q : Value → Shared → Prop} {I l : Addr} {i k : Nat} {vs : Array Value}
theorem iter_list (F : Fr h₀ L s.heap m) (N : News h₀ L s.heap news) (hm : (l, W.listOf vs k) ∈ news)
    (h : ∀ I h', Fr h₀ L h' m → News h₀ L h' ((I, itO l 0) :: news) → (∀ p ∈ news, p.1 < I) → Q (.ref I) { s with heap := h' }) : wpAny (model prog w) A (call (.builtin "iter") [.ref l]) Q E s := by
  refine call_function_entry (by decide +kernel) (by decide +kernel) kdk_entry_iter (kdk_args_iter _) ?_
  unfold Builtin.«iter»
  refine wpAny_bind (m := someArgs "iter" 1 2 _) (wpAny_of_eq (a := [Value.ref l]) (by first | rfl | kernel_rfl!) ?_)
  show wpAny _ _ (pyIter (.ref l) >>= _) _ _ _
  refine wpAny_bind (wpAny_pyIter_list ⟨_, N.get hm, rfl, _, rfl⟩ ?_)
  exact wpAny_pure ⟨_, rfl, h _ _ (F.push _) (News.push F N _ rfl) fun q hq => Heap.lt_size (N q hq).1⟩
theorem sameBut_fr {h' : Heap} {o : Obj} (F : Fr h₀ L s.heap m) (N : News h₀ L s.heap ((I, o) :: rest)) (hs : Heap.SameBut I s.heap h') : Fr h₀ L h' m :=
  F.change hs (N _ (.head _)).2.1 (N _ (.head _)).2.2
theorem sameBut_news {h' : Heap} {o o' : Obj} (N : News h₀ L s.heap ((I, o) :: rest)) (off : ∀ p ∈ rest, p.1 ≠ I) (hs : Heap.SameBut I s.heap h') (ho : h'.get? I = some o') : News h₀ L h' ((I, o') :: rest) := by
  intro p hp
  rcases List.mem_cons.mp hp with rfl | hp
  · exact ⟨ho, (N _ (.head _)).2⟩
  · exact ⟨(hs.2 p.1 (off p hp)).trans (N p (.tail _ hp)).1, (N p (.tail _ hp)).2⟩
theorem next_itemN {v : Value} (F : Fr h₀ L s.heap m) (N : News h₀ L s.heap ((I, itO l i) :: rest)) (off : ∀ p ∈ rest, p.1 ≠ I) (hl : (l, W.listOf vs k) ∈ rest) (hx : vs[i]? = some v)
    (h : ∀ h', Fr h₀ L h' m → News h₀ L h' ((I, itO l (i + 1)) :: rest) → Q v { s with heap := h' }) : wpAny (model prog w) A (call (.builtin "next") [.ref I]) Q E s :=
  next_item (N.get (.head _)) ⟨_, N.get (.tail _ hl), rfl, _, rfl⟩ hx fun h' ho hs => h h' (sameBut_fr F N hs) (sameBut_news N off hs ho)
theorem next_endN (hh : A.handled = none) (F : Fr h₀ L s.heap m) (N : News h₀ L s.heap ((I, itO l i) :: rest)) (off : ∀ p ∈ rest, p.1 ≠ I) (hl : (l, W.listOf vs k) ∈ rest) (hx : vs[i]? = none)
    (h : ∀ h₁, Fr h₀ L h₁ m → News h₀ L h₁ ((I, itE i) :: rest) → ∀ h' e, Heap.MadeExc h₁ h' e "StopIteration" [] → E (.ref e) { s with heap := h' }) : wpAny (model prog w) A (call (.builtin "next") [.ref I]) Q E s :=
  next_end hh (N.get (.head _)) ⟨_, N.get (.tail _ hl), rfl, _, rfl⟩ hx fun h₁ ho hs h' e hm => h h₁ (sameBut_fr F N hs) (sameBut_news N off hs ho) h' e hm
end
def Hid (p : Prop) : Prop := p
theorem Hid.out {p : Prop} (h : Hid p) : p := h
theorem whlPost_next {prog : Program} {w : World} {A : Around} {E : Value → Shared → Prop} {s : Shared} {env : Env} {test : PySem.Expr} {body orelse : List Stmt} {Q : Flow → Shared → Prop} {k : Nat}
    (h : Hid (WhlRest prog w A E env test body orelse Q k s)) : WhlPost prog w A E env test body orelse Q k .next s := h
/-- after a raise the ground is turned -/
theorem raised_ground {A₀ : Around} {base g h₀ h : Heap} {outer : List Env} {L a e t : Addr} {m : Str → Option Value} {name : Str} {scope : Scope} {cd : Value} {X : String} {vs : List Value} {news : List (Addr × Obj)}
    (R : RaisedS base g (envOf name scope L a cd :: outer) e (.type X) t vs news h) (hsm : g.UpToSlots h) (B : Below A₀ base outer h₀) (F : Fr h₀ L g m) :
    ∃ g', KtsTurn (outer.filterMap (·.frame)) h₀ g' ∧ Fr g' L h m ∧ Below A₀ base outer g' ∧ News g' L h news ∧ ∃ ob, h.get? e = some ob ∧ ob.cls = .type X := by
  obtain ⟨⟨B', hB, hBG, hl, hfl, hnew⟩, htup⟩ := R
  have hL : B'.get? L = none := by
    obtain ⟨_, ⟨L', _, hf, hn', _⟩, _⟩ := hfl.2.2.1
    obtain rfl : L = L' := Option.some.inj hf
    exact hn'
  obtain ⟨g', T', F', K'⟩ := kts_ground B F hBG hfl.1 hsm
  refine ⟨g', T', F', K', fun q hq => ⟨hfl.1 _ _ (hl q hq).1, (fun z => by have := (hl q hq).1; rw [z, hL] at this; cases this), T'.none_ _ (kts_none F.keep (hl q hq).2.1)⟩, hfl.there⟩

def IsIt (tup : Bool) (l : Addr) (i : Nat) (o : Obj) : Prop := o.cls = .type (if tup then "tuple_iterator" else "list_iterator") ∧ o.data = .fields #[.ref l, .int (i : Int) 0]
def SeqEnd (h₀ : Heap) (L : Addr) (s₁ : Shared) (I : Addr) (tup : Bool) (l : Addr) (i : Nat) (J : (Str → Option Value) → List (Addr × Obj) → Prop) (s₂ : Shared) : Prop :=
  ∃ h' tk m' news' oI, s₂ = { s₁ with heap := h', toks := tk } ∧ Fr h₀ L h' m' ∧ News h₀ L h' ((I, oI) :: news') ∧ IsIt tup l i oI ∧ (∀ p ∈ news', p.1 ≠ I) ∧ J m' news'
def SeqPost (h₀ : Heap) (L : Addr) (s₁ : Shared) (I : Addr) (tup : Bool) (l : Addr) (i : Nat) (J : (Str → Option Value) → List (Addr × Obj) → Prop) (Q : Flow → Shared → Prop) (f : Flow) (s₂ : Shared) : Prop :=
  match f with
  | .ret v => Q (.ret v) s₂
  | .brk => Q .next s₂
  | _ => SeqEnd h₀ L s₁ I tup l i J s₂
def SeqRest (prog : Program) (w : World) (A : Around) (E : Value → Shared → Prop) (h₀ : Heap) (env : Env) (L : Addr) (tgt : PySem.Expr) (body : List Stmt) (Q : Flow → Shared → Prop) (s : Shared) (tup : Bool) (l : Addr) (ol : Obj) : List Value → Nat → (Str → Option Value) → List (Addr × Obj) → Prop
  | [], _, m, news => ∀ h tk, Fr h₀ L h m → News h₀ L h news → Q .next { s with heap := h, toks := tk }
  | v :: vs, i, m, news => ∀ I oI h tk, IsIt tup l (i + 1) oI → Fr h₀ L h m → News h₀ L h ((I, oI) :: news) → (∀ p ∈ news, p.1 ≠ I) →
      wpAny (model prog w) A (assign tgt env v) (fun _ s₂ => wpAny (model prog w) A (execs body env) (SeqPost h₀ L s I tup l (i + 1) (fun m' news' => (l, ol) ∈ news' ∧ SeqRest prog w A E h₀ env L tgt body Q s tup l ol vs (i + 1) m' news') Q) E s₂) E { s with heap := h, toks := tk }
section
variable {prog : Program} {w : World} {A : Around} {E : Value → Shared → Prop} {s s₁ : Shared} {h₀ : Heap} {env : Env} {L : Addr} {tgt : PySem.Expr} {body : List Stmt} {Q : Flow → Shared → Prop} {tup : Bool} {l : Addr} {ol : Obj}
theorem SeqEnd.intro {I : Addr} {i : Nat} {J : (Str → Option Value) → List (Addr × Obj) → Prop} {h' : Heap} {tk : Nat} {m' : Str → Option Value} {oI : Obj} (news' : List (Addr × Obj)) (F : Fr h₀ L h' m') (N : News h₀ L h' ((I, oI) :: news')) (hI : IsIt tup l i oI) (off : ∀ p ∈ news', p.1 ≠ I) (j : J m' news') :
    SeqEnd h₀ L s₁ I tup l i J { s₁ with heap := h', toks := tk } := ⟨h', tk, m', news', oI, rfl, F, N, hI, off, j⟩
def SeqIn (prog : Program) (w : World) (A : Around) (E : Value → Shared → Prop) (h₀ : Heap) (env : Env) (L : Addr) (tgt : PySem.Expr) (body : List Stmt) (Q : Flow → Shared → Prop) (xv : Value) (s₁ : Shared) : Prop :=
  ∃ (tup : Bool) (l : Addr) (its : List Value) (k : Nat) (ol : Obj) (m : Str → Option Value) (news : List (Addr × Obj)), xv = .ref l ∧ ol.cls = .type (if tup then "tuple" else "list") ∧ ol.data = .seq its.toArray k ∧ Fr h₀ L s₁.heap m ∧ News h₀ L s₁.heap news ∧ (l, ol) ∈ news ∧
    SeqRest prog w A E h₀ env L tgt body Q s₁ tup l ol its 0 m news
theorem seq_next {I : Addr} {i : Nat} {oI : Obj} {its : List Value} {k : Nat} {news : List (Addr × Obj)} {Qn : Option Value → Shared → Prop} (hh : A.handled = none) (hc : ol.cls = .type (if tup then "tuple" else "list")) (hd : ol.data = .seq its.toArray k) (N : News h₀ L s.heap ((I, oI) :: news)) (hI : IsIt tup l i oI) (hl : (l, ol) ∈ news)
    (item : ∀ v, its[i]? = some v → ∀ h' o', IsIt tup l (i + 1) o' → h'.get? I = some o' → Heap.SameBut I s.heap h' → Qn (some v) { s with heap := h' })
    (done : its[i]? = none → ∀ h', Heap.ExtBut I s.heap h' → Qn none { s with heap := h' }) : wpAny (model prog w) A (pyNext (.ref I)) Qn E s := by
  have hN := N.get (.head _)
  have hL := N.get (.tail _ hl)
  cases tup with
  | true =>
    cases hx : its[i]? with
    | some v =>
      refine wpAny_pyNext_tuple_item (t := l) (i := i) (items := its.toArray) ⟨oI, hN, hI⟩ ⟨ol, hL, hc, k, hd⟩ (by simpa using hx) fun h' hit hs => ?_
      obtain ⟨o', ho', r⟩ := hit
      exact item v hx h' o' r ho' hs
    | none => exact wpAny_pyNext_tuple_end hh (t := l) (i := i) (items := its.toArray) ⟨oI, hN, hI⟩ ⟨ol, hL, hc, k, hd⟩ (by simpa using hx) fun h' he => done hx h' he
  | false =>
    cases hx : its[i]? with
    | some v =>
      refine wpAny_pyNext_list_item (l := l) (i := i) (items := its.toArray) ⟨oI, hN, hI⟩ ⟨ol, hL, hc, k, hd⟩ (by simpa using hx) fun h' hit hs => ?_
      obtain ⟨o', ho', r⟩ := hit
      exact item v hx h' o' r ho' hs
    | none => exact wpAny_pyNext_list_end hh (l := l) (i := i) (items := its.toArray) ⟨oI, hN, hI⟩ ⟨ol, hL, hc, k, hd⟩ (by simpa using hx) fun h' he => done hx h' he
theorem letGo_it {I : Addr} {i : Nat} {oI : Obj} {target : PySem.Expr} {v : Value} {Q' : Unit → Shared → Prop} {s' : Shared} (ho : s'.heap.get? I = some oI) (hI : IsIt tup l i oI) (h : Q' () s') :
    wpAny (model prog w) A (letOwnedTupleGo target (.ref I) v) Q' E s' := by
  obtain ⟨hc, hd⟩ := hI
  unfold letOwnedTupleGo
  cases target <;> first
    | exact wpAny_pure h
    | (cases v <;> first
        | exact wpAny_pure h
        | (refine wpAny_bind (wpAny_load ho ?_)
           rw [hc, hd]
           cases tup <;> exact wpAny_pure h))
theorem seq_for {iter : PySem.Expr} {pos : Pos} {mD : Str → Option Value} (_F : Fr h₀ L s.heap mD) (hh : A.handled = none) (h : wpAny (model prog w) A (eval iter env) (SeqIn prog w A E h₀ env L tgt body Q) E s)
    (hs : ∀ x, foldedSetIterable iter env x = pure x := by intro _; rfl) (hE : PassesOwn (model prog w) A env E := by passes_own) :
    wpAny (model prog w) A (exec (.For tgt iter body [] pos) env) Q E s := by
  refine wpAny_For (wpAny_mono h (fun xv s₁ h₁ => ?_) fun _ _ z => z) hs
  obtain ⟨tup, l, its, k, ol, m, news, rfl, hc, hd, F, N, hl, R⟩ := h₁
  have go : ∀ (I : Addr) (o : Obj), I = s₁.heap.objs.size → o.isFreed = false → IsIt tup l 0 o →
      codeAny (model prog w) A (.forLoop tgt (.ref I) body [] env) (fun r s' => match r with | .ok f => Q f s' | .error e => cameBackBy (model prog w) A env E e s') { s₁ with heap := s₁.heap.push o } := by
    rintro I o rfl hfr hI
    refine codeAny_forLoop_any (R := fun r s' => match r with | .ok f => Q f s' | .error e => cameBackBy (model prog w) A env E e s')
      (fun n s' => ∃ i m' news' oI h' tk, s' = { s₁ with heap := h', toks := tk } ∧ n = its.length - i ∧ Fr h₀ L h' m' ∧ News h₀ L h' ((s₁.heap.objs.size, oI) :: news') ∧ IsIt tup l i oI ∧ (∀ p ∈ news', p.1 ≠ s₁.heap.objs.size) ∧ (l, ol) ∈ news' ∧
        SeqRest prog w A E h₀ env L tgt body Q s₁ tup l ol (its.drop i) i m' news') ?_ its.length
        ⟨0, m, news, o, _, s₁.toks, rfl, rfl, F.push _, N.push F o hfr, hI, fun p hp => Nat.ne_of_lt (Heap.lt_size (N p hp).1), hl, R⟩
    rintro n s' ⟨i, m', news', oI, h', tk, rfl, rfl, F', N', hI', off, hl', R'⟩
    refine wpAny_passesOwn hE (seq_next (ol := ol) hh hc hd N' hI' hl' (fun v hx h'' o'' hI'' ho hs => ?_) fun hx h'' he => ?_)
    · have hlt := (List.getElem?_eq_some_iff.mp hx).1
      rw [List.drop_eq_getElem_cons hlt] at R'
      have hv : its[i] = v := (List.getElem?_eq_some_iff.mp hx).2
      rw [hv] at R'
      have hN := N' _ (.head _)
      have F'' : Fr h₀ L h'' m' := F'.change hs hN.2.1 hN.2.2
      have N'' : News h₀ L h'' ((s₁.heap.objs.size, o'') :: news') := by
        intro p hp
        rcases List.mem_cons.mp hp with rfl | hp
        · exact ⟨ho, hN.2⟩
        · exact ⟨(hs.2 p.1 (off p hp)).trans (N' p (.tail _ hp)).1, (N' p (.tail _ hp)).2⟩
      refine letGo_it ho hI'' ?_
      refine wpAny_passesOwn hE (wpAny_mono (R' s₁.heap.objs.size o'' h'' tk hI'' F'' N'' off) (fun _ s₂ h₂ => ?_) fun _ _ z => z)
      refine wpAny_passesOwn hE (wpAny_mono h₂ (fun f s₃ h₃ => ?_) fun _ _ z => z)
      have fin : SeqEnd h₀ L s₁ s₁.heap.objs.size tup l (i + 1) (fun m' news' => (l, ol) ∈ news' ∧ SeqRest prog w A E h₀ env L tgt body Q s₁ tup l ol (its.drop (i + 1)) (i + 1) m' news') s₃ →
          ∃ mm, mm < its.length - i ∧ ∃ i m' news' oI h' tk, s₃ = { s₁ with heap := h', toks := tk } ∧ mm = its.length - i ∧ Fr h₀ L h' m' ∧ News h₀ L h' ((s₁.heap.objs.size, oI) :: news') ∧ IsIt tup l i oI ∧ (∀ p ∈ news', p.1 ≠ s₁.heap.objs.size) ∧ (l, ol) ∈ news' ∧
          SeqRest prog w A E h₀ env L tgt body Q s₁ tup l ol (its.drop i) i m' news' := fun z => by
        obtain ⟨h3, tk3, m3, news3, o3, rfl, F3, N3, hI3, off3, hl3, R3⟩ := z
        exact ⟨its.length - (i + 1), by omega, i + 1, m3, news3, o3, h3, tk3, rfl, rfl, F3, N3, hI3, off3, hl3, R3⟩
      cases f with
      | next => exact fin h₃
      | cont => exact fin h₃
      | brk => exact h₃
      | ret v => exact h₃
    · have hge := List.getElem?_eq_none_iff.mp hx
      rw [List.drop_eq_nil_of_le hge] at R'
      have hN := N' _ (.head _)
      have F'' : Fr h₀ L h'' m' := by
        refine ⟨?_, fun b o e => he b o (fun q => ?_) (F'.keep b o e), F'.above⟩
        · obtain ⟨oL, a1, a2, hoL, a3⟩ := F'.ns
          exact ⟨oL, a1, a2, he _ _ (Ne.symm hN.2.1) hoL, a3⟩
        · rw [q, hN.2.2] at e; cases e
      have N'' : News h₀ L h'' news' := fun p hp => ⟨he p.1 p.2 (off p hp) (N' p (.tail _ hp)).1, (N' p (.tail _ hp)).2⟩
      exact wpAny_execs_nil (R' h'' tk F'' N'')
  cases tup with
  | true => exact wpAny_pyIter_tuple ⟨ol, N.get hl, hc, k, hd⟩ (go _ _ rfl rfl ⟨rfl, rfl⟩)
  | false => exact wpAny_pyIter_list ⟨ol, N.get hl, hc, k, hd⟩ (go _ _ rfl rfl ⟨rfl, rfl⟩)
end
section
variable {M : Model} {A : Around} {E : Value → Shared → Prop} {s : Shared} {h₀ : Heap} {L a : Addr} {m : Str → Option Value} {cn : Str} {cs : Scope} {ccd : Value} {cl : List (Str × Addr)}
  {x : Str} {v : Value} {Q : Unit → Shared → Prop} {news : List (Addr × Obj)} {c : Addr} {o : Obj} {v₀ : Option Value}
theorem store_cellN (rest : List (Addr × Obj)) (F : Fr h₀ L s.heap m) (N : News h₀ L s.heap news) (hc : cl.lookup x = some c) (hm : (c, o) ∈ news) (hd : o.data = .cell v₀) (hsub : ∀ p ∈ rest, p ∈ news) (ha : ∀ p ∈ rest, p.1 ≠ c)
    (h : ∀ h' o', Fr h₀ L h' m → News h₀ L h' ((c, o') :: rest) → o'.data = .cell (some v) → Q () { s with heap := h' })
    (hk : cs.kind = .function := by rfl) (hx : (envX cn cs L a ccd cl).kindOf x = some .cell := by rfl) : wpAny M A (storeName (envX cn cs L a ccd cl) x v) Q E s := by
  have hmem := N (c, o) hm
  refine wpAny_storeName_cell hk hx hc ⟨o, hmem.1, hd⟩ fun h' hv hs => ?_
  obtain ⟨o', ho', hd'⟩ := hv
  refine h h' o' (F.change hs hmem.2.1 hmem.2.2) ?_ hd'
  intro p hp
  rcases List.mem_cons.mp hp with rfl | hp
  · exact ⟨ho', hmem.2⟩
  · exact ⟨(hs.2 p.1 (ha p hp)).trans (N p (hsub p hp)).1, (N p (hsub p hp)).2⟩
end
theorem seq_gen {α β γ δ : Type} {P Inv : α → β → γ → δ → Prop} {a : α} {b : β} {c : γ} {d : δ} (h : Inv a b c d) (k : ∀ a b c d, Inv a b c d → P a b c d) : P a b c d := k a b c d h
section
variable {prog : Program} {w : World} {A : Around} {E : Value → Shared → Prop} {s : Shared} {h₀ : Heap} {L S : Addr} {m : Str → Option Value} {news : List (Addr × Obj)}
theorem append_N {acc : List Value} {c : Nat} {x : Value} {Q : Value → Shared → Prop} (rest : List (Addr × Obj)) (F : Fr h₀ L s.heap m) (N : News h₀ L s.heap news) (hm : (S, W.listOf acc.toArray c) ∈ news) (hsub : ∀ p ∈ rest, p ∈ news) (ha : ∀ p ∈ rest, p.1 ≠ S)
    (hsz : acc.length ≤ 1000) (h : ∀ h', Fr h₀ L h' m → News h₀ L h' ((S, W.listOf (acc ++ [x]).toArray (c + 1)) :: rest) → Q .none { s with heap := h' }) : wpAny (model prog w) A (call (.builtin "list.append") [.ref S, x]) Q E s := by
  have z := N _ hm
  refine append_at (its := acc.toArray) (n := c) (hsz := by rw [sizeLine_eq, List.size_toArray]; omega) z.1 fun h' hs ho' => h h' (F.change hs z.2.1 z.2.2) ?_
  intro p hp
  rcases List.mem_cons.mp hp with rfl | hp
  · refine ⟨?_, z.2⟩
    rw [ho', List.push_toArray]
  · have z' := N p (hsub p hp)
    exact ⟨(hs.2 _ (ha p hp)).trans z'.1, z'.2⟩
end

section
variable {prog : Program} {w : World} {A₀ A : Around} {s : Shared} {base h₀ : Heap} {L a : Addr} {m : Str → Option Value} {env : Env} {news : List (Addr × Obj)} {K : Frag} {p : Program} {loose : List Str} {mean : ExcName → Option Value} {mg mb : Str → Option Value}
    {R : Result → Shared → Prop} {name qual : Str} {params : Arguments} {body : List Stmt} {scope : Scope} {dV kV doc pm cdv ct oc : Value} {an od : Option Addr} {osl : Array (Option Value)} {f : Addr} {args : Args} {binds : List (Str × Value)}
/-- a def entered whose leaving may turn the caller's slots (nothing but the caller below) -/
theorem code_defSx (B : Below A₀ base [] h₀) (F : Fr h₀ L s.heap m) (X₀ : K.In h₀) (N : News h₀ L s.heap news) (T : Top p loose mean mg mb h₀) (hA : A.frames = some [env]) (hf : env.frame = some L) (hke : env.scope.kind = .function)
    (ho : K.lookup f = some ⟨oc, od, .func (fnOf name qual params body scope dV kV doc pm an cdv ct), osl⟩) (hcd : codeIn K cdv qual = true) (hroom : A.depth < recursionLimit)
    (hbind : BindsTo s (fnOf name qual params body scope dV kV doc pm an cdv ct) args binds) (hloc : ∀ y ∈ binds, scope.names.lookup y.1 = some .local)
    (h : ∀ g L' h₁, Fr h₀ L g m → Fr g L' h₁ (fun y => binds.reverse.lookup y) → News g L' h₁ news → Below A base [env] g → K.In g → Top p loose mean mg mb g →
      wpAny (model prog w) (A.deeper (envOf qual scope L' f cdv)) (execs body (envOf qual scope L' f cdv))
        (fun fl s' => LeaveS0 [L] h₀ L m g R (match fl with | .ret v => v | _ => .none) s')
        (fun e s' => wpAny (model prog w) (A.deeper (envOf qual scope L' f cdv)) (leaving (envOf qual scope L' f cdv) e) (fun _ s'' => R (.error e) s'') (fun e' s'' => R (.error e') s'') s')
        { s with heap := h₁, toks := s.toks + binds.length })
    (hco : scope.isCoroutine = false) (hgen : scope.isGenerator = false) (hk : scope.kind = .function)
    (hcell : ∀ x ∈ scope.names, x.2 ≠ .cell) : codeAny (model prog w) A (.call (.ref f) args) R s := by
  have X := X₀.keeps F.keep
  obtain ⟨FG, BG, st, _⟩ := groundX (R := R) B F N hA hf hke
  refine codeAny_call_def (fd := fnOf name qual params body scope dV kV doc pm an cdv ct) (body := body) (binds := binds) hroom (X _ _ ho) rfl (T.nolimit.keeps F.keep) (codeRec_of X hcd) rfl hbind hcell hloc (fun h₁ hns hk₁ => ?_) hco hgen hk
  refine wpAny_mono (h _ s.heap.objs.size h₁ FG ⟨hns, fun b o e => hk₁ b o (of_hideAll _ e), Nat.le_of_eq (hideAll_size _ _)⟩
    (fun p hp => ⟨hk₁ _ _ (N p hp).1, Nat.ne_of_lt (Heap.lt_size (N p hp).1), hideAll_none _ (List.mem_map_of_mem hp)⟩) BG (X₀.keeps st) (T.keeps st)) (fun fl s' hl => ?_) fun _ _ y => y
  obtain ⟨oL, es, ep, hLg, hLd, hLk, hLf⟩ := FG.ns
  obtain ⟨g', L', m', news', T', F', N', k⟩ := hl
  have nL₀ : h₀.get? L = none := kts_self F
  obtain ⟨sl, hs⟩ := T'.up hLg
  refine k ⟨⟨_, es, ep, F'.keep _ _ hs, hLd, hLk, hLf⟩, fun b o e => F'.keep b o (T'.other b o (st b o e) (fun q => by
    rw [List.mem_singleton.mp q, nL₀] at e
    cases e)), F.above⟩ fun p hp => ⟨(N' p hp).1, fun q => ?_, ?_⟩
  · have := (N' p hp).2.2; rw [q, hs] at this; cases this
  · cases q : h₀.get? p.1 with
    | none => rfl
    | some o =>
      obtain ⟨sl', hs'⟩ := T'.up (st _ _ q)
      have := (N' p hp).2.2
      rw [hs'] at this
      cases this
end
/-- what a call of f gives where nothing but the caller's frame is below -/
def Tel0 (prog : Program) (w : World) (K : Frag) (p : Program) (loose : List Str) (mean : ExcName → Option Value) (mg mb : Str → Option Value) (f : Addr) (k : Nat)
    (Rel : List (Addr × Obj) → List Value → Prop) (Out : List (Addr × Obj) → Value → Prop) : Prop :=
  ∀ (dp un : Nat) (gd : Option (List Code)) (cn : Str) (cs : Scope) (a : Addr) (ccd : Value) (cl : List (Str × Addr)) (A₀ : Around) (base h₀ : Heap) (L : Addr) (m : Str → Option Value) (news sub : List (Addr × Obj)) (s : Shared) (vs : List Value)
    (Q E : Value → Shared → Prop),
    Below A₀ base [] h₀ → Fr h₀ L s.heap m → K.In h₀ → News h₀ L s.heap news → Top p loose mean mg mb h₀ → cs.kind = .function → (∀ q ∈ sub, q ∈ news) → Rel sub vs → dp + k < recursionLimit → un + 8 * k < cLine →
    (∀ r tl h' tk', Fr h₀ L h' m → News h₀ L h' (news ++ tl) → (∀ q ∈ news, ∀ p ∈ tl, p.1 ≠ q.1) → Out (sub ++ tl) r → Q r { s with heap := h', toks := tk' }) →
    wpAny (model prog w) (ktrTop dp un gd cn cs L a ccd cl []) (call (.ref f) vs) Q E s
theorem tel_use0 {prog : Program} {w : World} {K : Frag} {p : Program} {loose : List Str} {mean : ExcName → Option Value} {mg mb : Str → Option Value} {f : Addr} {k : Nat} {Rel : List (Addr × Obj) → List Value → Prop} {Out : List (Addr × Obj) → Value → Prop}
    {dp un : Nat} {gd : Option (List Code)} {cn : Str} {cs : Scope} {a : Addr} {ccd : Value} {cl : List (Str × Addr)} {A₀ : Around} {base h₀ : Heap} {L : Addr} {m : Str → Option Value} {news sub : List (Addr × Obj)} {s : Shared} {vs : List Value}
    {Q E : Value → Shared → Prop} (C : Tel0 prog w K p loose mean mg mb f k Rel Out) (B : Below A₀ base [] h₀) (F : Fr h₀ L s.heap m) (X : K.In h₀) (N : News h₀ L s.heap news) (T : Top p loose mean mg mb h₀) (hk : cs.kind = .function) (hs : ∀ q ∈ sub, q ∈ news) (R : Rel sub vs)
    (hd : dp + k < recursionLimit) (hu : un + 8 * k < cLine)
    (ret : ∀ r tl h' tk', Fr h₀ L h' m → News h₀ L h' (news ++ tl) → (∀ q ∈ news, ∀ p ∈ tl, p.1 ≠ q.1) → Out (sub ++ tl) r → Q r { s with heap := h', toks := tk' }) :
    wpAny (model prog w) (ktrTop dp un gd cn cs L a ccd cl []) (call (.ref f) vs) Q E s := C _ _ _ _ _ _ _ _ _ _ _ _ _ _ _ _ _ _ _ B F X N T hk hs R hd hu ret
theorem keepIn_fn {K : Frag} {f : Addr} {oc : Value} {od : Option Addr} {fd : FuncData} {sl : Array (Option Value)} (h : K.lookup f = some ⟨oc, od, .func fd, sl⟩) : keepIn K (.ref f) = true := by
  unfold keepIn
  simp only [h]

open_top hd for PySem.Challenge.rw_ij0164_02
local macro_rules | `(tactic| walk_at $s:str) => `(tactic| k_extra $s)

abbrev ffObj (d q I : Addr) : Obj := { cls := .ref 139, dict := some d, slots := #[some (.ref q), some (.ref I)] }
/-- is kept by filterfalse -/
def keptD (sk : List Dat) (d : Dat) : Bool := !((kqdPs sk).any fun y => PyData.eqv y (kqdP d))
def nextM (x q : Addr) (ov : Option Value) (y : Str) : Option Value := if y = "item" then ov else if y = "func" then some (.ref q) else if y = "self" then some (.ref x) else none
theorem next_tel {w : World} {mean : ExcName → Option Value} {mg mb : Str → Option Value} {A A₀ : Around} {E : Value → Shared → Prop} {Q : Value → Shared → Prop} {s : Shared} {base h₀ : Heap} {outer : List Env} {cn : Str} {cs : Scope} {L a : Addr} {ccd : Value} {m : Str → Option Value} {rest n1 n2 : List (Addr × Obj)} {I x d q l k : Addr} {vs us : List Value} {fs sk : List Dat} {nv nu : Nat}
    (hA : A.frames = some (envOf cn cs L a ccd :: outer)) (hh : A.handled = none) (hck : cs.kind = .function) (hroom : A.depth < recursionLimit) (hu : A.units + 80 < cLine)
    (B : Below A₀ base outer h₀) (F : Fr h₀ L s.heap m) (X : (hd.heap_39 w.params).In h₀) (T : Top hd.view_39 (looseW hd.view_39 [Str.ofString "filterfalse"]) mean mg mb h₀)
    (off : ∀ p ∈ (x, ffObj d q I) :: (d, dictOf [] 0) :: (q, mwObj "list.__contains__" (.ref k)) :: rest, p.1 ≠ I) (hl : (l, W.listOf vs.toArray nv) ∈ rest) (hk : (k, W.listOf us.toArray nu) ∈ rest)
    (D1 : DatAll n1 vs fs) (D2 : DatAll n2 us sk) (s1 : ∀ p ∈ n1, p ∈ rest) (s2 : ∀ p ∈ n2, p ∈ rest) (h1 : ∀ d ∈ fs, okD 8 d = true) (h2 : ∀ d ∈ sk, okD 8 d = true) (i : Nat)
    (N : News h₀ L s.heap ((I, itO l i) :: (x, ffObj d q I) :: (d, dictOf [] 0) :: (q, mwObj "list.__contains__" (.ref k)) :: rest))
    (item : ∀ j v e h' tk, i ≤ j → vs[j]? = some v → fs[j]? = some e → keptD sk e = true → (∀ c e', i ≤ c → c < j → fs[c]? = some e' → keptD sk e' = false) → Fr h₀ L h' m →
      News h₀ L h' ((I, itO l (j + 1)) :: (x, ffObj d q I) :: (d, dictOf [] 0) :: (q, mwObj "list.__contains__" (.ref k)) :: rest) → Q v { s with heap := h', toks := tk })
    (stop : ∀ g' h' e tk, (∀ c e', i ≤ c → fs[c]? = some e' → keptD sk e' = false) → KtsTurn (outer.filterMap (·.frame)) h₀ g' → Fr g' L h' m → Below A₀ base outer g' → News g' L h' rest → (∃ ob, h'.get? e = some ob ∧ ob.cls = .type "StopIteration") → E (.ref e) { s with heap := h', toks := tk }) :
    wpAny (model PySem.Challenge.rw_ij0164_02.row.prog w) A (call (.ref 135) [.ref x]) Q E s := by
  revert X
  k_fill
  w_top off
  intro X
  k_with_none
  k_with "MineMem" => (first | (with_reducible assumption) | (with_reducible exact List.mem_cons_self) | ((with_reducible refine List.mem_append.mpr (Or.inl ?_)); walk_at "MineMem") | ((with_reducible refine List.mem_append.mpr (Or.inr ?_)); walk_at "MineMem") | ((with_reducible refine List.mem_cons_of_mem _ ?_); walk_at "MineMem"))
  k_with "eval ListComp" => ((k_here; k_dflt (refine LCg.ListComp_U (F₀ := by k_asm) (by with_unfolding_all rfl) (by decide) (by rfl) (by decide) (by rfl) ?_)))
  k_with "MineItem" => (first | exact DatIn.none | exact DatIn.bool _ | exact DatIn.int _ _ | exact DatIn.str _ _ | assumption | (refine DatIn.mono ?_ (by assumption); (intro p hp; (try simp only [List.mem_append, List.mem_cons] at hp ⊢); grind)))
  k_with "MineLt" => (first | assumption | exact allLt_of (by assumption) | tbn_find | (simp only [AllLt, and_true]; tbn_conj))
  k_with "MineTup" => ((refine DatIn.tuple (List.mem_append.mpr (Or.inr (List.Mem.head _))) ?_; repeat' (first | exact DatAll.nil | refine DatAll.cons ?_ ?_ | walk_at "MineItem")))
  k_with "TurnEnd" => ((refine TurnEnd.intro [(_, _)] (by assumption) (tl1 (by assumption)) (off1 (by walk_at "MineLt")) (by walk_at "MineTup")))
  k_with "MineSub" => (first | exact fun _ h => h | assumption | (intro p hp; first | (exact List.Mem.tail _ (by assumption)) | (simp only [List.mem_append, List.mem_cons, List.not_mem_nil, or_false] at hp ⊢; grind)))
  k_with "subscriptTail" => ((k_here; (with_reducible show wpAny _ _ (subscriptTail _ _ (Value.ref _) (Value.int _ _)) _ _ _); k_dflt (refine' item_tupleT ?mwt ?mwa ?mwb ?mwc ?mwd ?_; (case mwt => exact News.isTup (by k_asm) (by walk_at "MineMem")); (case mwa => decide); (case mwb => decide); (case mwc => rfl); (case mwd => rfl); k_whole)))
  k_with "MineRoom" => (first | assumption | ktr_room | (dsimp only [ktrTop, Around.deeper, Around.in1] at *; simp only [recursionLimit] at *; omega))
  k_with "MineUnits" => (first | ktr_units | (have hcL9 := cLine_is; dsimp only [ktrTop, Around.deeper, Around.in1] at *; omega))
  k_with "And" => (((with_reducible show WrapAt _ _ ∧ _); k_dflt (refine ⟨WrapAt.of (by k_asm) (by walk_at "MineMemD"), ?_⟩); (try dsimp only [List.nil_append, List.cons_append])))
  k_with "eval Name" => ((k_here; (with_reducible show wpAny _ _ (eval (Expr.Name _ _) (compEnvC _ _ _ _)) _ _ _); k_dflt (first | refine LCgL.ld_own (by k_asm) (by walk_at "MineMem") (by assumption) (by assumption) ?_ | refine LCgL.ld_global (by k_asm) (by k_asm) (by k_asm) (by k_is) ?_ | refine LCgL.ld_built (by k_asm) (by k_asm) (by k_asm) (by k_is) (by boot_by_name) (by decide) ?_)))
  k_with "MineMemD" => ((repeat' (first | assumption | exact List.mem_cons_self | (refine List.mem_cons_of_mem _ ?_) | (refine List.mem_append.mpr (Or.inl ?_)) | fail "MineMemD")))
  k_with "exec" => ((with_reducible show wpAny _ _ (exec (Stmt.While _ _ _ _) _) _ _ _); refine whl_start 0 (Hid.out ?_))
  refine wpAny_call ?_
  k_dflt (refine' code_def ?me1 ?me2 ?me3 ?me4 ?me5 ?meA ?meF ?meK ?me6 ?me7 ?me8 ?me9 ?meB ?_ ?mec2 ?mec3 ?mec4 ?mec5; (case meA => first | exact rfl | assumption); (case meF => exact rfl); (case meK => first | exact rfl | assumption); (case me1 => k_asm); (case me2 => k_asm); (case me3 => k_asm); (case me4 => k_asm); (case me5 => k_asm); (case me6 => k_is); (case me7 => k_is); (case me8 => walk_at "MineRoom"); (case me9 => first | exact BindsTo.of_eq rfl | exact binds_K (by k_in) rfl (by k_is) rfl rfl rfl); (case mec5 => decide); (case meB => exact locs rfl); (case mec2 => exact rfl); (case mec3 => exact rfl); (case mec4 => exact rfl); k_whole; intro _ _ _ _ _ _ _ _ _; (try dsimp only); (try k_fold))
  k_steps
  rename_i g1 L1 hq FG' B' X' T' hp F' N'
  unfold Hid
  have F2 : Fr g1 L1 hp (nextM x q none) := by
    refine (?_ : _ = nextM x q none) ▸ F'
    funext y
    show (if y = "func" then some (Value.ref q) else List.lookup y [("self", Value.ref x)]) = _
    unfold nextM
    by_cases h1 : y = "func"
    · subst h1; rfl
    · by_cases h2 : y = "self"
      · subst h2; rfl
      · rw [if_neg h1, if_neg h1, if_neg h2, List.lookup, show (y == "self") = false from by simpa using h2]
        simp [List.lookup]
  clear F'
  have F' : ∃ ov, Fr g1 L1 hp (nextM x q ov) := ⟨_, F2⟩
  clear F2
  have N2 : ∃ i', News g1 L1 hp ((I, itO l i') :: (x, ffObj d q I) :: (d, dictOf [] 0) :: (q, mwObj "list.__contains__" (.ref k)) :: rest) ∧ i ≤ i' ∧ ∀ c e', i ≤ c → c < i' → fs[c]? = some e' → keptD sk e' = false := ⟨i, N', Nat.le_refl _, fun c e' h1 h2 => absurd h2 (by omega)⟩
  clear N'
  obtain ⟨i', N', hi, hskip⟩ := N2
  have hn : ∃ n, vs.length - i' = n := ⟨_, rfl⟩
  obtain ⟨n, hn⟩ := hn
  have htk : ∃ tt, tk + 1 + 1 = tt := ⟨_, rfl⟩
  obtain ⟨tt, htk⟩ := htk
  rw [htk]
  clear htk
  induction n generalizing i' hp tt with
  | zero => 
    obtain ⟨ov, F'⟩ := F'
    unfold nextM at F'
    have hnone : vs.toArray[i']? = none := by simp; omega
    k_with_none
    k_with "MineMem" => (first | (with_reducible assumption) | (with_reducible exact List.mem_cons_self) | ((with_reducible refine List.mem_append.mpr (Or.inl ?_)); walk_at "MineMem") | ((with_reducible refine List.mem_append.mpr (Or.inr ?_)); walk_at "MineMem") | ((with_reducible refine List.mem_cons_of_mem _ ?_); walk_at "MineMem"))
    k_with "eval ListComp" => ((k_here; k_dflt (refine LCg.ListComp_U (F₀ := by k_asm) (by with_unfolding_all rfl) (by decide) (by rfl) (by decide) (by rfl) ?_)))
    k_with "MineItem" => (first | exact DatIn.none | exact DatIn.bool _ | exact DatIn.int _ _ | exact DatIn.str _ _ | assumption | (refine DatIn.mono ?_ (by assumption); (intro p hp; (try simp only [List.mem_append, List.mem_cons] at hp ⊢); grind)))
    k_with "MineLt" => (first | assumption | exact allLt_of (by assumption) | tbn_find | (simp only [AllLt, and_true]; tbn_conj))
    k_with "MineTup" => ((refine DatIn.tuple (List.mem_append.mpr (Or.inr (List.Mem.head _))) ?_; repeat' (first | exact DatAll.nil | refine DatAll.cons ?_ ?_ | walk_at "MineItem")))
    k_with "TurnEnd" => ((refine TurnEnd.intro [(_, _)] (by assumption) (tl1 (by assumption)) (off1 (by walk_at "MineLt")) (by walk_at "MineTup")))
    k_with "MineSub" => (first | exact fun _ h => h | assumption | (intro p hp; first | (exact List.Mem.tail _ (by assumption)) | (simp only [List.mem_append, List.mem_cons, List.not_mem_nil, or_false] at hp ⊢; grind)))
    k_with "subscriptTail" => ((k_here; (with_reducible show wpAny _ _ (subscriptTail _ _ (Value.ref _) (Value.int _ _)) _ _ _); k_dflt (refine' item_tupleT ?mwt ?mwa ?mwb ?mwc ?mwd ?_; (case mwt => exact News.isTup (by k_asm) (by walk_at "MineMem")); (case mwa => decide); (case mwb => decide); (case mwc => rfl); (case mwd => rfl); k_whole)))
    k_with "MineRoom" => (first | assumption | ktr_room | (dsimp only [ktrTop, Around.deeper, Around.in1] at *; simp only [recursionLimit] at *; omega))
    k_with "MineUnits" => (first | ktr_units | (have hcL9 := cLine_is; dsimp only [ktrTop, Around.deeper, Around.in1] at *; omega))
    k_with "And" => (((with_reducible show WrapAt _ _ ∧ _); k_dflt (refine ⟨WrapAt.of (by k_asm) (by walk_at "MineMemD"), ?_⟩); (try dsimp only [List.nil_append, List.cons_append])))
    k_with "eval Name" => ((k_here; (with_reducible show wpAny _ _ (eval (Expr.Name _ _) (compEnvC _ _ _ _)) _ _ _); k_dflt (first | refine LCgL.ld_own (by k_asm) (by walk_at "MineMem") (by assumption) (by assumption) ?_ | refine LCgL.ld_global (by k_asm) (by k_asm) (by k_asm) (by k_is) ?_ | refine LCgL.ld_built (by k_asm) (by k_asm) (by k_asm) (by k_is) (by boot_by_name) (by decide) ?_)))
    k_with "MineMemD" => ((repeat' (first | assumption | exact List.mem_cons_self | (refine List.mem_cons_of_mem _ ?_) | (refine List.mem_append.mpr (Or.inl ?_)) | fail "MineMemD")))
    k_with "call builtin:next" => (refine next_endN hh (by k_asm) (by k_asm) off (.tail _ (.tail _ (.tail _ hl))) hnone ?_; intro h₁ F₁ N₁ h₂ e₂ hm₂)
    k_with "leaving ref" => (refine leave_raiseS B' hm₂.of F₁ N₁ ?_; intro h₃ t₃ R₃ RK₃ U₃)
    refine whl_turn (k := 0) (by passes_own) ?_
    k_steps
    obtain ⟨g', T'', F'', B'', N'', hob⟩ := raised_ground R₃ U₃ B FG'
    refine stop g' h₃ e₂ _ ?_ T'' F'' B'' (fun p hp => N'' p (.tail _ (.tail _ (.tail _ (.tail _ hp))))) hob
    intro c e' hc hce
    refine hskip c e' hc ?_ hce
    have hc2 := (List.getElem?_eq_some_iff.mp hce).1
    have hlen := D1.length
    omega
  | succ n ih =>
    obtain ⟨ov, F'⟩ := F'
    unfold nextM at F'
    have hlen := D1.length
    obtain ⟨v, hv⟩ : ∃ v, vs[i']? = some v := ⟨_, List.getElem?_eq_getElem (show i' < vs.length by omega)⟩
    have D1' : DatAll n1 vs (fs.map id) := by simpa using D1
    obtain ⟨e, he, hD⟩ := datAll_get D1' hv
    simp only [id] at hD
    have hva : vs.toArray[i']? = some v := by simpa using hv
    k_with_none
    k_with "MineMem" => (first | (with_reducible assumption) | (with_reducible exact List.mem_cons_self) | ((with_reducible refine List.mem_append.mpr (Or.inl ?_)); walk_at "MineMem") | ((with_reducible refine List.mem_append.mpr (Or.inr ?_)); walk_at "MineMem") | ((with_reducible refine List.mem_cons_of_mem _ ?_); walk_at "MineMem"))
    k_with "eval ListComp" => ((k_here; k_dflt (refine LCg.ListComp_U (F₀ := by k_asm) (by with_unfolding_all rfl) (by decide) (by rfl) (by decide) (by rfl) ?_)))
    k_with "MineItem" => (first | exact DatIn.none | exact DatIn.bool _ | exact DatIn.int _ _ | exact DatIn.str _ _ | assumption | (refine DatIn.mono ?_ (by assumption); (intro p hp; (try simp only [List.mem_append, List.mem_cons] at hp ⊢); grind)))
    k_with "MineLt" => (first | assumption | exact allLt_of (by assumption) | tbn_find | (simp only [AllLt, and_true]; tbn_conj))
    k_with "MineTup" => ((refine DatIn.tuple (List.mem_append.mpr (Or.inr (List.Mem.head _))) ?_; repeat' (first | exact DatAll.nil | refine DatAll.cons ?_ ?_ | walk_at "MineItem")))
    k_with "TurnEnd" => ((refine TurnEnd.intro [(_, _)] (by assumption) (tl1 (by assumption)) (off1 (by walk_at "MineLt")) (by walk_at "MineTup")))
    k_with "MineSub" => (first | exact fun _ h => h | assumption | (intro p hp; first | (exact List.Mem.tail _ (by assumption)) | (simp only [List.mem_append, List.mem_cons, List.not_mem_nil, or_false] at hp ⊢; grind)))
    k_with "subscriptTail" => ((k_here; (with_reducible show wpAny _ _ (subscriptTail _ _ (Value.ref _) (Value.int _ _)) _ _ _); k_dflt (refine' item_tupleT ?mwt ?mwa ?mwb ?mwc ?mwd ?_; (case mwt => exact News.isTup (by k_asm) (by walk_at "MineMem")); (case mwa => decide); (case mwb => decide); (case mwc => rfl); (case mwd => rfl); k_whole)))
    k_with "MineRoom" => (first | assumption | ktr_room | (dsimp only [ktrTop, Around.deeper, Around.in1] at *; simp only [recursionLimit] at *; omega))
    k_with "MineUnits" => (first | ktr_units | (have hcL9 := cLine_is; dsimp only [ktrTop, Around.deeper, Around.in1] at *; omega))
    k_with "And" => (((with_reducible show WrapAt _ _ ∧ _); k_dflt (refine ⟨WrapAt.of (by k_asm) (by walk_at "MineMemD"), ?_⟩); (try dsimp only [List.nil_append, List.cons_append])))
    k_with "eval Name" => ((k_here; (with_reducible show wpAny _ _ (eval (Expr.Name _ _) (compEnvC _ _ _ _)) _ _ _); k_dflt (first | refine LCgL.ld_own (by k_asm) (by walk_at "MineMem") (by assumption) (by assumption) ?_ | refine LCgL.ld_global (by k_asm) (by k_asm) (by k_asm) (by k_is) ?_ | refine LCgL.ld_built (by k_asm) (by k_asm) (by k_asm) (by k_is) (by boot_by_name) (by decide) ?_)))
    k_with "MineMemD" => ((repeat' (first | assumption | exact List.mem_cons_self | (refine List.mem_cons_of_mem _ ?_) | (refine List.mem_append.mpr (Or.inl ?_)) | fail "MineMemD")))
    k_with "call builtin:next" => (refine next_itemN (by k_asm) (by k_asm) off (.tail _ (.tail _ (.tail _ hl))) hva ?_; intro h₁ F₁ N₁)
    k_with "callWith ref" => (refine callWith_W (WrapAt.of (by k_asm) (by walk_at "MineMemD")) ?_)
    k_with "call ref" => (refine mw_data (by k_asm) (by walk_at "MineMemD") (by walk_at "MineMemD") D2 (fun p hp => .tail _ (.tail _ (.tail _ (.tail _ (s2 p hp))))) hD (fun p hp => .tail _ (.tail _ (.tail _ (.tail _ (s1 p hp))))) h2 (h1 _ (List.mem_of_getElem? he)) (by walk_at "MineUnits") ?_)
    k_with "WhlPost" => (refine whlPost_next ?_)
    refine whl_turn (k := 0) (by passes_own) ?_
    k_steps
    · rename_i h4 F4 N4 a4
      unfold Hid
      refine ih h4 ⟨some v, ?_⟩ (i' + 1) N4 (by omega) ?_ (by omega) _
      · refine (?_ : _ = nextM x q (some v)) ▸ F4
        funext y
        unfold nextM
        by_cases h1 : y = "item"
        · subst h1; rfl
        · rw [if_neg h1, if_neg h1, if_neg h1]
      · intro c e' hc hc2 hce
        by_cases h : c = i'
        · subst h
          rw [he] at hce
          cases hce
          unfold keptD
          rw [a4]
          rfl
        · exact hskip c e' hc (by omega) hce
    · rename_i h4 F4 N4 a4 kF kN Tc kX
      refine item i' v e h4 _ hi hv he (by unfold keptD; rw [a4]; rfl) hskip kF kN

theorem iter_own {w : World} {mean : ExcName → Option Value} {mg mb : Str → Option Value} {A A₀ : Around} {E : Value → Shared → Prop} {Q : Value → Shared → Prop} {s : Shared} {base h₀ : Heap} {outer : List Env} {cn : Str} {cs : Scope} {L a : Addr} {ccd : Value} {m : Str → Option Value} {news : List (Addr × Obj)} {x : Addr}
    (hA : A.frames = some (envOf cn cs L a ccd :: outer)) (hck : cs.kind = .function) (hroom : A.depth < recursionLimit)
    (B : Below A₀ base outer h₀) (F : Fr h₀ L s.heap m) (X : (hd.heap_39 w.params).In h₀) (T : Top hd.view_39 (looseW hd.view_39 [Str.ofString "filterfalse"]) mean mg mb h₀) (N : News h₀ L s.heap news)
    (h : ∀ h' tk, Fr h₀ L h' m → News h₀ L h' news → Q (.ref x) { s with heap := h', toks := tk }) :
    wpAny (model PySem.Challenge.rw_ij0164_02.row.prog w) A (call (.ref 128) [.ref x]) Q E s := by
  revert X
  k_fill
  w_top off
  intro X
  k_with_none
  k_with "MineMem" => (first | (with_reducible assumption) | (with_reducible exact List.mem_cons_self) | ((with_reducible refine List.mem_append.mpr (Or.inl ?_)); walk_at "MineMem") | ((with_reducible refine List.mem_append.mpr (Or.inr ?_)); walk_at "MineMem") | ((with_reducible refine List.mem_cons_of_mem _ ?_); walk_at "MineMem"))
  k_with "eval ListComp" => ((k_here; k_dflt (refine LCg.ListComp_U (F₀ := by k_asm) (by with_unfolding_all rfl) (by decide) (by rfl) (by decide) (by rfl) ?_)))
  k_with "MineItem" => (first | exact DatIn.none | exact DatIn.bool _ | exact DatIn.int _ _ | exact DatIn.str _ _ | assumption | (refine DatIn.mono ?_ (by assumption); (intro p hp; (try simp only [List.mem_append, List.mem_cons] at hp ⊢); grind)))
  k_with "MineLt" => (first | assumption | exact allLt_of (by assumption) | tbn_find | (simp only [AllLt, and_true]; tbn_conj))
  k_with "MineTup" => ((refine DatIn.tuple (List.mem_append.mpr (Or.inr (List.Mem.head _))) ?_; repeat' (first | exact DatAll.nil | refine DatAll.cons ?_ ?_ | walk_at "MineItem")))
  k_with "TurnEnd" => ((refine TurnEnd.intro [(_, _)] (by assumption) (tl1 (by assumption)) (off1 (by walk_at "MineLt")) (by walk_at "MineTup")))
  k_with "MineSub" => (first | exact fun _ h => h | assumption | (intro p hp; first | (exact List.Mem.tail _ (by assumption)) | (simp only [List.mem_append, List.mem_cons, List.not_mem_nil, or_false] at hp ⊢; grind)))
  k_with "subscriptTail" => ((k_here; (with_reducible show wpAny _ _ (subscriptTail _ _ (Value.ref _) (Value.int _ _)) _ _ _); k_dflt (refine' item_tupleT ?mwt ?mwa ?mwb ?mwc ?mwd ?_; (case mwt => exact News.isTup (by k_asm) (by walk_at "MineMem")); (case mwa => decide); (case mwb => decide); (case mwc => rfl); (case mwd => rfl); k_whole)))
  k_with "MineRoom" => (first | assumption | ktr_room | (dsimp only [ktrTop, Around.deeper, Around.in1] at *; simp only [recursionLimit] at *; omega))
  k_with "MineUnits" => (first | ktr_units | (have hcL9 := cLine_is; dsimp only [ktrTop, Around.deeper, Around.in1] at *; omega))
  k_with "And" => (((with_reducible show WrapAt _ _ ∧ _); k_dflt (refine ⟨WrapAt.of (by k_asm) (by walk_at "MineMemD"), ?_⟩); (try dsimp only [List.nil_append, List.cons_append])))
  k_with "eval Name" => ((k_here; (with_reducible show wpAny _ _ (eval (Expr.Name _ _) (compEnvC _ _ _ _)) _ _ _); k_dflt (first | refine LCgL.ld_own (by k_asm) (by walk_at "MineMem") (by assumption) (by assumption) ?_ | refine LCgL.ld_global (by k_asm) (by k_asm) (by k_asm) (by k_is) ?_ | refine LCgL.ld_built (by k_asm) (by k_asm) (by k_asm) (by k_is) (by boot_by_name) (by decide) ?_)))
  k_with "MineMemD" => ((repeat' (first | assumption | exact List.mem_cons_self | (refine List.mem_cons_of_mem _ ?_) | (refine List.mem_append.mpr (Or.inl ?_)) | fail "MineMemD")))
  refine wpAny_call ?_
  k_dflt (refine' code_def ?me1 ?me2 ?me3 ?me4 ?me5 ?meA ?meF ?meK ?me6 ?me7 ?me8 ?me9 ?meB ?_ ?mec2 ?mec3 ?mec4 ?mec5; (case meA => first | exact rfl | assumption); (case meF => exact rfl); (case meK => first | exact rfl | assumption); (case me1 => k_asm); (case me2 => k_asm); (case me3 => k_asm); (case me4 => k_asm); (case me5 => k_asm); (case me6 => k_is); (case me7 => k_is); (case me8 => walk_at "MineRoom"); (case me9 => first | exact BindsTo.of_eq rfl | exact binds_K (by k_in) rfl (by k_is) rfl rfl rfl); (case mec5 => decide); (case meB => exact locs rfl); (case mec2 => exact rfl); (case mec3 => exact rfl); (case mec4 => exact rfl); k_whole; intro _ _ _ _ _ _ _ _ _; (try dsimp only); (try k_fold))
  k_steps
  rename_i kF kN Tc kX
  exact h _ _ kF kN

theorem ff_next (w : World) : findIn (hd.heap_39 w.params) (.ref 139) "__next__" = some (some (.ref 135)) := by k_is
theorem ff_iter (w : World) : findIn (hd.heap_39 w.params) (.ref 139) "__iter__" = some (some (.ref 128)) := by k_is
theorem ff_len (w : World) : findIn (hd.heap_39 w.params) (.ref 139) "__len__" = some none := by k_is
theorem ff_hint (w : World) : findIn (hd.heap_39 w.params) (.ref 139) "__length_hint__" = some none := by k_is
theorem ff_fn_next (w : World) : isFn (hd.heap_39 w.params) (.ref 135) = true := by k_is
theorem ff_fn_iter (w : World) : isFn (hd.heap_39 w.params) (.ref 128) = true := by k_is
theorem spec_K {M : Model} {A : Around} {E : Value → Shared → Prop} {Q : Option Value → Shared → Prop} {s : Shared} {K : Frag} {h₀ : Heap} {L x C : Addr} {m : Str → Option Value} {ox : Obj} {od : Option Obj} {n : Str} {r : Option Value}
    (F : Fr h₀ L s.heap m) (X : K.In h₀) (I : InstAt s.heap x ox C od) (h : findIn K (.ref C) n = some r) (hQ : Q r s) : wpAny M A (specialOf (.ref x) n) Q E s := by
  unfold specialOf
  exact wpAny_bind (I.type.here ((looks_findIn (X.keeps F.keep) h).here hQ))
def keptUpTo (sk fs : List Dat) (i : Nat) : List Dat := (fs.take i).filter (keptD sk)
theorem keptUpTo_skip {sk fs : List Dat} {i : Nat} : ∀ (n : Nat), (∀ c e', i ≤ c → c < i + n → fs[c]? = some e' → keptD sk e' = false) → keptUpTo sk fs (i + n) = keptUpTo sk fs i := by
  intro n
  induction n with
  | zero => intro _; rfl
  | succ n ih =>
    intro h
    have q := ih fun c e' h1 h2 => h c e' h1 (by omega)
    unfold keptUpTo at q ⊢
    rw [show i + (n + 1) = (i + n) + 1 from rfl, List.take_add_one, List.filter_append, q]
    cases e : fs[i + n]? with
    | none => simp
    | some d => simp [h (i + n) d (by omega) (by omega) e]
theorem keptUpTo_item {sk fs : List Dat} {j : Nat} {e : Dat} (he : fs[j]? = some e) (hk : keptD sk e = true) : keptUpTo sk fs (j + 1) = keptUpTo sk fs j ++ [e] := by
  unfold keptUpTo
  rw [List.take_add_one, List.filter_append, he]
  simp [hk]
theorem keptUpTo_all {sk fs : List Dat} : keptUpTo sk fs fs.length = fs.filter (keptD sk) := by
  unfold keptUpTo
  rw [List.take_length]
theorem keptUpTo_le {sk fs : List Dat} {i : Nat} : (keptUpTo sk fs i).length ≤ fs.length := by
  unfold keptUpTo
  exact Nat.le_trans (List.length_filter_le _ _) (by rw [List.length_take]; omega)

section
variable {h₀ h h' : Heap} {L S : Addr} {m : Str → Option Value} {o o' : Obj} {pre rest : List (Addr × Obj)}
theorem newsIn_to (N : News h₀ L h (pre ++ (S, o) :: rest)) (o1 : ∀ p ∈ pre, p.1 ≠ S) (o2 : ∀ p ∈ rest, p.1 ≠ S) (hs : Heap.SameBut S h h') (ho : h'.get? S = some o') : News h₀ L h' (pre ++ (S, o') :: rest) := by
  intro p hp
  rcases List.mem_append.mp hp with hp | hp
  · exact ⟨(hs.2 p.1 (o1 p hp)).trans (N p (List.mem_append.mpr (.inl hp))).1, (N p (List.mem_append.mpr (.inl hp))).2⟩
  · rcases List.mem_cons.mp hp with rfl | hp
    · exact ⟨ho, (N (S, o) (List.mem_append.mpr (.inr (.head _)))).2⟩
    · exact ⟨(hs.2 p.1 (o2 p hp)).trans (N p (List.mem_append.mpr (.inr (.tail _ hp)))).1, (N p (List.mem_append.mpr (.inr (.tail _ hp)))).2⟩
theorem frIn_to (F : Fr h₀ L h m) (N : News h₀ L h (pre ++ (S, o) :: rest)) (hs : Heap.SameBut S h h') : Fr h₀ L h' m :=
  F.change hs (N (S, o) (List.mem_append.mpr (.inr (.head _)))).2.1 (N (S, o) (List.mem_append.mpr (.inr (.head _)))).2.2
end
def lstO (acc : List Value) (c : Nat) : Obj := { cls := .type "list", dict := none, data := .seq acc.toArray c, slots := #[] }

theorem extend_loop {w : World} {mean : ExcName → Option Value} {mg mb : Str → Option Value} {A A₀ : Around} {R : Result → Shared → Prop} {base h₀ : Heap} {outer : List Env} {cn : Str} {cs : Scope} {L a : Addr} {ccd : Value} {m : Str → Option Value} {rest n1 n2 : List (Addr × Obj)} {I x d q l k S : Addr} {vs us : List Value} {fs sk : List Dat} {nv nu : Nat} {res : Value}
    (hA : A.frames = some (envOf cn cs L a ccd :: outer)) (hh : A.handled = none) (hck : cs.kind = .function) (hroom : A.depth < recursionLimit) (hu : A.units + 100 < cLine)
    (B : Below A₀ base outer h₀) (X : (hd.heap_39 w.params).In h₀) (T : Top hd.view_39 (looseW hd.view_39 [Str.ofString "filterfalse"]) mean mg mb h₀)
    (off : ∀ p ∈ (x, ffObj d q I) :: (d, dictOf [] 0) :: (q, mwObj "list.__contains__" (.ref k)) :: rest, p.1 ≠ I) (offS : ∀ p ∈ (x, ffObj d q I) :: (d, dictOf [] 0) :: (q, mwObj "list.__contains__" (.ref k)) :: rest, p.1 ≠ S) (hIS : I ≠ S) (hl : (l, W.listOf vs.toArray nv) ∈ rest) (hk : (k, W.listOf us.toArray nu) ∈ rest)
    (D1 : DatAll n1 vs fs) (D2 : DatAll n2 us sk) (s1 : ∀ p ∈ n1, p ∈ rest) (s2 : ∀ p ∈ n2, p ∈ rest) (h1 : ∀ d ∈ fs, okD 8 d = true) (h2 : ∀ d ∈ sk, okD 8 d = true) (hsz : fs.length ≤ 1000) :
    ∀ (n i : Nat) (s : Shared) (acc : List Value) (c : Nat), fs.length - i = n → i ≤ fs.length → DatAll n1 acc (keptUpTo sk fs i) → Fr h₀ L s.heap m →
    News h₀ L s.heap ((I, itO l i) :: (x, ffObj d q I) :: (d, dictOf [] 0) :: (q, mwObj "list.__contains__" (.ref k)) :: (S, lstO acc c) :: rest) →
    (∀ g' h' acc' c' tk, KtsTurn (outer.filterMap (·.frame)) h₀ g' → Fr g' L h' m → Below A₀ base outer g' → News g' L h' ((S, lstO acc' c') :: rest) → DatAll n1 acc' (fs.filter (keptD sk)) → R (.ok (.ret res)) { s with heap := h', toks := tk }) →
    codeAny (model PySem.Challenge.rw_ij0164_02.row.prog w) A (.builtin "list.extend.loop" ⟨[.ref S, .ref x, res], []⟩) R s := by
  intro n
  induction n using Nat.strongRecOn with
  | ind n ih =>
    intro i s acc c hn hi D F N hR
    refine codeAny_builtin PySem.F.entry_extend_loop ?_
    rw [Around.under_plainId PySem.F.plain_extend_loop _]
    show wpAny _ A.in1 (pyNext (.ref x) >>= _) _ _ s
    refine wpAny_bind ?_
    have Ii := InstAt.of_news (C := 139) N (.tail _ (.head _)) (.tail _ (.tail _ (.head _)))
    refine owit_next F X Ii (ff_next w) (ff_fn_next w) ?_
    have offI : ∀ p ∈ (x, ffObj d q I) :: (d, dictOf [] 0) :: (q, mwObj "list.__contains__" (.ref k)) :: (S, lstO acc c) :: rest, p.1 ≠ I := by
      intro p hp
      rcases List.mem_cons.mp hp with rfl | hp
      · exact off _ (.head _)
      rcases List.mem_cons.mp hp with rfl | hp
      · exact off _ (.tail _ (.head _))
      rcases List.mem_cons.mp hp with rfl | hp
      · exact off _ (.tail _ (.tail _ (.head _)))
      rcases List.mem_cons.mp hp with rfl | hp
      · exact fun e => hIS e.symm
      · exact off _ (.tail _ (.tail _ (.tail _ hp)))
    refine next_tel (i := i) (A := A.in1) (A₀ := A₀) (rest := (S, lstO acc c) :: rest) hA hh hck hroom (by show A.units + 1 + 80 < cLine; omega) B F X T offI (.tail _ hl) (.tail _ hk) D1 D2 (fun p hp => .tail _ (s1 p hp)) (fun p hp => .tail _ (s2 p hp)) h1 h2 N ?_ ?_
    · intro j v e h' tk hij hv he hke hsk F' N'
      have hj := (List.getElem?_eq_some_iff.mp he).1
      have hDj : DatAll n1 acc (keptUpTo sk fs j) := by
        have q := keptUpTo_skip (sk := sk) (fs := fs) (i := i) (j - i) fun c e' a b => hsk c e' a (by omega)
        rw [show i + (j - i) = j by omega] at q
        rw [q]; exact D
      have hlen : acc.length ≤ 1000 := by
        rw [D.length]
        exact Nat.le_trans keptUpTo_le hsz
      have hS : h'.get? S = some (lstO acc c) := N'.get (.tail _ (.tail _ (.tail _ (.tail _ (.head _)))))
      have hup := Heap.get?_update_self (Obj.mapSeq (·.push v)) hS rfl
      show wpAny _ A.in1 (updateSeq S (·.push v) >>= _) _ _ _
      refine wpAny_bind ?_
      refine wpAny_updateSeq hS rfl (wpAny_pure ⟨plainId_quiet PySem.F.plain_extend_loop _, ?_⟩)
        (by rw [List.size_toArray, sizeLine_eq]; omega) (by rw [Array.size_push, List.size_toArray, sizeLine_eq]; omega)
      have hD' : DatAll n1 (acc ++ [v]) (keptUpTo sk fs (j + 1)) := by
        have D1' : DatAll n1 vs (fs.map id) := by simpa using D1
        obtain ⟨e2, he2, hd2⟩ := datAll_get D1' hv
        rw [he] at he2
        cases he2
        rw [keptUpTo_item he hke]
        exact DatAll.append hDj (.one hd2)
      have hsb : Heap.SameBut S h' (h'.update S (Obj.mapSeq (·.push v))) := Heap.SameBut.update ..
      have oS : ∀ p ∈ (I, itO l (j + 1)) :: (x, ffObj d q I) :: (d, dictOf [] 0) :: (q, mwObj "list.__contains__" (.ref k)) :: [], p.1 ≠ S := by
        intro p hp
        rcases List.mem_cons.mp hp with rfl | hp
        · exact hIS
        · refine offS p ?_
          rcases List.mem_cons.mp hp with rfl | hp
          · exact .head _
          rcases List.mem_cons.mp hp with rfl | hp
          · exact .tail _ (.head _)
          rcases List.mem_cons.mp hp with rfl | hp
          · exact .tail _ (.tail _ (.head _))
          cases hp
      have oR : ∀ p ∈ rest, p.1 ≠ S := fun p hp => offS p (.tail _ (.tail _ (.tail _ hp)))
      have F'' := frIn_to (pre := (I, itO l (j + 1)) :: (x, ffObj d q I) :: (d, dictOf [] 0) :: (q, mwObj "list.__contains__" (.ref k)) :: []) F' N' hsb
      obtain ⟨c'', hc''⟩ : ∃ c'', Obj.mapSeq (·.push v) (lstO acc c) = lstO (acc ++ [v]) c'' := ⟨_, by simp only [lstO, Obj.mapSeq, List.push_toArray]; rfl⟩
      rw [hc''] at hup
      have N'' := newsIn_to (pre := (I, itO l (j + 1)) :: (x, ffObj d q I) :: (d, dictOf [] 0) :: (q, mwObj "list.__contains__" (.ref k)) :: []) N' oS oR hsb hup
      refine ih (fs.length - (j + 1)) (by omega) (j + 1) _ (acc ++ [v]) c'' rfl (by omega) hD' F'' N'' ?_
      intro g' h5 acc' c' tk' T5 F5 B5 N5 D5
      exact hR g' h5 acc' c' tk' T5 F5 B5 N5 D5
    · intro g' h' e tk hsk T' F' B' N' hob
      obtain ⟨ob, hob, hoc⟩ := hob
      unfold OwitStop
      refine wpAny_isInstance (T := "StopIteration") (b := true) ⟨ob, hob, hoc⟩ (by first | rfl | kernel_rfl) ?_
      rw [if_pos rfl]
      refine wpAny_pure ?_
      have hDj : DatAll n1 acc (fs.filter (keptD sk)) := by
        have q := keptUpTo_skip (sk := sk) (fs := fs) (i := i) (fs.length - i) fun c e' a b => hsk c e' a
        rw [show i + (fs.length - i) = fs.length by omega, keptUpTo_all] at q
        rw [q]; exact D
      exact hR g' h' acc c tk T' F' B' N' hDj

theorem list_own {w : World} {mean : ExcName → Option Value} {mg mb : Str → Option Value} {A A₀ : Around} {E : Value → Shared → Prop} {Q : Value → Shared → Prop} {s : Shared} {base h₀ : Heap} {outer : List Env} {cn : Str} {cs : Scope} {L a : Addr} {ccd : Value} {m : Str → Option Value} {rest n1 n2 : List (Addr × Obj)} {I x d q l k : Addr} {vs us : List Value} {fs sk : List Dat} {nv nu : Nat}
    (hA : A.frames = some (envOf cn cs L a ccd :: outer)) (hh : A.handled = none) (hck : cs.kind = .function) (hroom : A.depth < recursionLimit) (hu : A.units + 110 < cLine)
    (B : Below A₀ base outer h₀) (X : (hd.heap_39 w.params).In h₀) (T : Top hd.view_39 (looseW hd.view_39 [Str.ofString "filterfalse"]) mean mg mb h₀) (F : Fr h₀ L s.heap m)
    (off : ∀ p ∈ (x, ffObj d q I) :: (d, dictOf [] 0) :: (q, mwObj "list.__contains__" (.ref k)) :: rest, p.1 ≠ I) (hl : (l, W.listOf vs.toArray nv) ∈ rest) (hk : (k, W.listOf us.toArray nu) ∈ rest)
    (D1 : DatAll n1 vs fs) (D2 : DatAll n2 us sk) (s1 : ∀ p ∈ n1, p ∈ rest) (s2 : ∀ p ∈ n2, p ∈ rest) (h1 : ∀ d ∈ fs, okD 8 d = true) (h2 : ∀ d ∈ sk, okD 8 d = true) (hsz : fs.length ≤ 1000)
    (N : News h₀ L s.heap ((I, itO l 0) :: (x, ffObj d q I) :: (d, dictOf [] 0) :: (q, mwObj "list.__contains__" (.ref k)) :: rest))
    (hQ : ∀ S g' h' acc' c' tk, KtsTurn (outer.filterMap (·.frame)) h₀ g' → Fr g' L h' m → Below A₀ base outer g' → News g' L h' ((S, lstO acc' c') :: rest) → (∀ p ∈ rest, p.1 ≠ S) → DatAll n1 acc' (fs.filter (keptD sk)) → Q (.ref S) { s with heap := h', toks := tk }) :
    wpAny (model PySem.Challenge.rw_ij0164_02.row.prog w) A (call (.type "list") [.ref x]) Q E s := by
  refine callType_codes (Q₁ := fun obj s₁ => obj = .ref s.heap.objs.size ∧ s₁ = { s with heap := s.heap.push { cls := .type "list", data := .seq #[] } }) PySem.F.called_list (PySem.F.typeCall_list_1 _) PySem.F.entry_list_init
    (code_list_new _ ⟨rfl, rfl⟩) fun obj s₁ h₁ => ?_
  obtain ⟨rfl, rfl⟩ := h₁
  have hS : (s.heap.push { cls := .type "list", data := .seq #[] }).get? s.heap.objs.size = some { cls := .type "list", data := .seq #[] } := Heap.get?_push_size _ rfl
  refine ⟨⟨_, hS, rfl⟩, PySem.F.args_list_init_2 _ _, ?_⟩
  show wpAny _ A.in1.in1 (do let old ← Builtin.List.listItems (.ref _); Builtin.List.listUpdate (.ref _) (fun _ => #[]); letGo old.toList.reverse; Builtin.List.listExtendWith (.ref _) (.ref x) .none) _ _ _
  have oA : ∀ p ∈ (I, itO l 0) :: (x, ffObj d q I) :: (d, dictOf [] 0) :: (q, mwObj "list.__contains__" (.ref k)) :: rest, p.1 ≠ s.heap.objs.size := fun p hp => Nat.ne_of_lt (Heap.lt_size (N p hp).1)
  have F₁ : Fr h₀ L (s.heap.push { cls := .type "list", data := .seq #[] }) m := F.push _
  have N₁ := News.push F N ({ cls := .type "list", data := .seq #[] } : Obj) rfl
  generalize hSz : s.heap.objs.size = S at *
  refine wpAny_bind ?_
  unfold Builtin.List.listItems
  refine wpAny_bind (wpAny_seqItems hS rfl (wpAny_pure ?_))
  show wpAny _ A.in1.in1 (updateSeq S (fun _ => #[]) >>= fun _ => letGo (#[] : Array Value).toList.reverse >>= fun _ => Builtin.List.listExtendWith (.ref S) (.ref x) .none) _ _ _
  refine wpAny_bind (wpAny_updateSeq hS rfl ?_)
  have hS₂ := Heap.get?_update_self (Obj.mapSeq (fun _ => (#[] : Array Value))) hS rfl
  have b₂ : Heap.SameBut S (s.heap.push { cls := .type "list", data := .seq #[] }) ((s.heap.push { cls := .type "list", data := .seq #[] }).update S (Obj.mapSeq (fun _ => (#[] : Array Value)))) := Heap.SameBut.update ..
  have F₂ := frIn_to (pre := []) F₁ N₁ b₂
  have N₂ := newsIn_to (pre := []) N₁ (fun _ h => nomatch h) oA b₂ hS₂
  clear F₁ N₁ b₂
  refine wpAny_bind (wpAny_letGo ?_)
  generalize hh2 : (s.heap.push { cls := .type "list", data := .seq #[] }).update S (Obj.mapSeq (fun _ => (#[] : Array Value))) = h2' at *
  unfold Builtin.List.listExtendWith
  have hSx : S ≠ x := fun e => oA (x, _) (.tail _ (.head _)) e.symm
  have Ii := InstAt.of_news (C := 139) N₂ (.tail _ (.tail _ (.head _))) (.tail _ (.tail _ (.tail _ (.head _))))
  refine wpAny_bind (Ii.type.here ?_)
  have e1 : Builtin.List.listSameRef (.ref S) (.ref x) = false := by simp [Builtin.List.listSameRef, hSx]
  have e2 : (Value.ref 139 == Value.type "list") = false := by decide
  have e3 : (Value.ref 139 == Value.type "tuple") = false := by decide
  simp only [e1, e2, e3, Bool.or_false, Bool.false_eq_true, if_false]
  refine wpAny_bind (owit_iter F₂ X Ii (ff_iter w) (ff_fn_iter w) ?_)
  refine iter_own (A := A.in1.in1) hA hck hroom B F₂ X T N₂ fun h3 tk3 F₃ N₃ => ?_
  have Ii₃ := InstAt.of_news (C := 139) N₃ (.tail _ (.tail _ (.head _))) (.tail _ (.tail _ (.tail _ (.head _))))
  refine owit_it F₃ X Ii₃ (ff_next w) ?_
  refine wpAny_bind (wpAny_holding ?_)
  unfold Builtin.List.listLengthHint
  refine wpAny_bind (spec_K F₃ X Ii₃ (ff_len w) ?_)
  show wpAny _ A.in1.in1 (specialOf (Value.ref x) (Str.ofString "__length_hint__") >>= _) _ _ _
  refine wpAny_bind (spec_K F₃ X Ii₃ (ff_hint w) ?_)
  refine wpAny_pure ?_
  show wpAny _ A.in1.in1 (rule "list.extend.makes-room" >>= fun _ => Builtin.List.listTouch (.ref S) >>= fun _ =>
    again (.builtin "list.extend.loop" ⟨[.ref S, .ref x, .none], []⟩)) _ _ _
  refine wpAny_bind (wpAny_rule ?_)
  refine wpAny_bind ?_
  show wpAny _ A.in1.in1 (updateSeq S (·.push .none) >>= fun _ => updateSeq S (·.pop)) _ _ _
  have hS₃ := N₃.get (.head _)
  refine wpAny_bind (wpAny_updateSeq hS₃ rfl ?_)
  have hS₄ := Heap.get?_update_self (Obj.mapSeq (·.push Value.none)) hS₃ rfl
  have b₄ : Heap.SameBut S h3 (h3.update S (Obj.mapSeq (·.push Value.none))) := Heap.SameBut.update ..
  have F₄ := frIn_to (pre := []) F₃ N₃ b₄
  have N₄ := newsIn_to (pre := []) N₃ (fun _ h => nomatch h) oA b₄ hS₄
  refine wpAny_updateSeq (hz := by seq_fits) hS₄ rfl ?_
  have hS₅ := Heap.get?_update_self (Obj.mapSeq (·.pop)) hS₄ rfl
  have b₅ : Heap.SameBut S (h3.update S (Obj.mapSeq (·.push Value.none))) ((h3.update S (Obj.mapSeq (·.push Value.none))).update S (Obj.mapSeq (·.pop))) := Heap.SameBut.update ..
  have F₅ := frIn_to (pre := []) F₄ N₄ b₅
  have N₅ := newsIn_to (pre := []) N₄ (fun _ h => nomatch h) oA b₅ hS₅
  refine wpAny_pure ⟨plainId_quiet PySem.F.plain_extend_loop _, ?_⟩
  have hc : ∃ c, Obj.mapSeq (·.pop) (Obj.mapSeq (·.push Value.none) (Obj.mapSeq (fun _ => (#[] : Array Value)) { cls := .type "list", data := .seq #[] })) = lstO [] c := ⟨_, rfl⟩
  obtain ⟨c, hc⟩ := hc
  rw [hc] at N₅
  refine extend_loop (A := A.in1) (A₀ := A₀) (S := S) hA hh hck hroom (by show A.units + 1 + 100 < cLine; omega) B X T off (fun p hp => oA p (.tail _ hp)) (oA _ (.head _)) hl hk D1 D2 s1 s2 h1 h2 hsz (fs.length - 0) 0 _ [] c rfl (Nat.zero_le _) ?_ F₅ (newsIn N₅ ?_) ?_
  · unfold keptUpTo
    simp only [List.take_zero, List.filter_nil]
    exact .nil
  · intro p hp
    simp only [List.mem_cons, List.nil_append] at hp ⊢
    grind
  · intro g' h' acc' c' tk T' F' B' N' D'
    exact ⟨rfl, hQ S g' h' acc' c' tk T' F' B' N' (fun p hp => oA p (.tail _ (.tail _ (.tail _ (.tail _ hp))))) D'⟩

theorem filter_tel {w : World} {mean : ExcName → Option Value} {mg mb : Str → Option Value} (fs sk : List Dat) (hf : ∀ d ∈ fs, okD 8 d = true) (hk' : ∀ d ∈ sk, okD 8 d = true) (hsz : fs.length ≤ 1000) : Tel0 PySem.Challenge.rw_ij0164_02.row.prog w (hd.heap_39 w.params) hd.view_39 (looseW hd.view_39 [Str.ofString "filterfalse"]) mean mg mb 150 80 (fun L vs => DatAll L vs [.list fs, .list sk]) (fun L r => DatIn L r (.list (fs.filter (keptD sk)))) := by
  k_fill
  w_top off
  unfold Tel0
  intro dp un gd cn cs a ccd cl A₀ base h₀ L m news sub s vs Q E B F X N T hk hs hR hd hu hret
  obtain ⟨_, _, rfl, h1, h2⟩ := inv2 hR
  obtain ⟨_, _, _, rfl, hm1, hD1⟩ := invL h1
  obtain ⟨_, _, _, rfl, hm2, hD2⟩ := invL h2
  have hm1' := hs _ hm1
  have hm2' := hs _ hm2
  k_with_none
  k_with "MineMem" => (first | (with_reducible assumption) | (with_reducible exact List.mem_cons_self) | ((with_reducible refine List.mem_append.mpr (Or.inl ?_)); walk_at "MineMem") | ((with_reducible refine List.mem_append.mpr (Or.inr ?_)); walk_at "MineMem") | ((with_reducible refine List.mem_cons_of_mem _ ?_); walk_at "MineMem"))
  k_with "eval ListComp" => ((k_here; k_dflt (refine LCg.ListComp_U (F₀ := by k_asm) (by with_unfolding_all rfl) (by decide) (by rfl) (by decide) (by rfl) ?_)))
  k_with "MineItem" => (first | exact DatIn.none | exact DatIn.bool _ | exact DatIn.int _ _ | exact DatIn.str _ _ | assumption | (refine DatIn.mono ?_ (by assumption); (intro p hp; (try simp only [List.mem_append, List.mem_cons] at hp ⊢); grind)))
  k_with "MineLt" => (first | assumption | exact allLt_of (by assumption) | tbn_find | (simp only [AllLt, and_true]; tbn_conj))
  k_with "MineTup" => ((refine DatIn.tuple (List.mem_append.mpr (Or.inr (List.Mem.head _))) ?_; repeat' (first | exact DatAll.nil | refine DatAll.cons ?_ ?_ | walk_at "MineItem")))
  k_with "TurnEnd" => ((refine TurnEnd.intro [(_, _)] (by assumption) (tl1 (by assumption)) (off1 (by walk_at "MineLt")) (by walk_at "MineTup")))
  k_with "MineSub" => (first | exact fun _ h => h | assumption | (intro p hp; first | (exact List.Mem.tail _ (by assumption)) | (simp only [List.mem_append, List.mem_cons, List.not_mem_nil, or_false] at hp ⊢; grind)))
  k_with "subscriptTail" => ((k_here; (with_reducible show wpAny _ _ (subscriptTail _ _ (Value.ref _) (Value.int _ _)) _ _ _); k_dflt (refine' item_tupleT ?mwt ?mwa ?mwb ?mwc ?mwd ?_; (case mwt => exact News.isTup (by k_asm) (by walk_at "MineMem")); (case mwa => decide); (case mwb => decide); (case mwc => rfl); (case mwd => rfl); k_whole)))
  k_with "MineRoom" => (first | assumption | ktr_room | (dsimp only [ktrTop, Around.deeper, Around.in1] at *; simp only [recursionLimit] at *; omega))
  k_with "MineUnits" => (first | ktr_units | (have hcL9 := cLine_is; dsimp only [ktrTop, Around.deeper, Around.in1] at *; omega))
  k_with "And" => (((with_reducible show WrapAt _ _ ∧ _); k_dflt (refine ⟨WrapAt.of (by k_asm) (by walk_at "MineMemD"), ?_⟩); (try dsimp only [List.nil_append, List.cons_append])))
  k_with "eval Name" => ((k_here; (with_reducible show wpAny _ _ (eval (Expr.Name _ _) (compEnvC _ _ _ _)) _ _ _); k_dflt (first | refine LCgL.ld_own (by k_asm) (by walk_at "MineMem") (by assumption) (by assumption) ?_ | refine LCgL.ld_global (by k_asm) (by k_asm) (by k_asm) (by k_is) ?_ | refine LCgL.ld_built (by k_asm) (by k_asm) (by k_asm) (by k_is) (by boot_by_name) (by decide) ?_)))
  k_with "MineMemD" => ((repeat' (first | assumption | exact List.mem_cons_self | (refine List.mem_cons_of_mem _ ?_) | (refine List.mem_append.mpr (Or.inl ?_)) | fail "MineMemD")))
  k_with "getAttr ref" => (refine ga_containsN (by k_asm) (by k_asm) (by walk_at "MineMem") ?_; intro q' h' tk' F' N' l1; (try k_lt l1))
  k_with "call builtin:iter" => (refine iter_list (by k_asm) (by k_asm) (by walk_at "MineMem") ?_; intro q' h' F' N' l1; (try k_lt l1))
  k_with "call ref" => k_dflt (refine' call_cls ?mh1 ?mh2 ?mh3 ?mh4 ?mh5 ?mh6 ?_; (case mh1 => k_asm); (case mh2 => k_asm); (case mh3 => k_asm); (case mh4 => k_is); (case mh5 => k_is); (case mh6 => k_is); k_whole; intro _ _ _ _ _ l7 l8; (have l9 := allLt_of (fun p hp => Nat.lt_trans (l7 p hp) l8)); (try simp only [AllLt, and_true] at l9); (try k_lt l7); (try k_lt2 l8); (try k_sweep); (refine' code_def ?me1 ?me2 ?me3 ?me4 ?me5 ?meA ?meF ?meK ?me6 ?me7 ?me8 ?me9 ?meB ?_ ?mec2 ?mec3 ?mec4 ?mec5; (case meA => first | exact rfl | assumption); (case meF => exact rfl); (case meK => first | exact rfl | assumption); (case me1 => k_asm); (case me2 => k_asm); (case me3 => k_asm); (case me4 => k_asm); (case me5 => k_asm); (case me6 => k_is); (case me7 => k_is); (case me8 => walk_at "MineRoom"); (case me9 => first | exact BindsTo.of_eq rfl | exact binds_K (by k_in) rfl (by k_is) rfl rfl rfl); (case mec5 => decide); (case meB => exact locs rfl); (case mec2 => exact rfl); (case mec3 => exact rfl); (case mec4 => exact rfl); k_whole; intro _ _ _ _ _ _ _ _ _; (try dsimp only); (try k_fold)))
  refine wpAny_call ?_
  k_dflt (refine' code_defSx ?ms1 ?ms2 ?ms3 ?ms4 ?ms5 ?msA ?msF ?msK ?ms6 ?ms7 ?ms8 ?ms9 ?msB ?_ ?msc2 ?msc3 ?msc4 ?msc5; (case msA => first | exact rfl | assumption); (case msF => exact rfl); (case msK => first | exact rfl | assumption); (case ms1 => k_asm); (case ms2 => k_asm); (case ms3 => k_asm); (case ms4 => k_asm); (case ms5 => k_asm); (case ms6 => k_is); (case ms7 => k_is); (case ms8 => walk_at "MineRoom"); (case ms9 => first | exact BindsTo.of_eq rfl | exact binds_K (by k_in) rfl (by k_is) rfl rfl rfl); (case msc5 => decide); (case msB => exact locs rfl); (case msc2 => exact rfl); (case msc3 => exact rfl); (case msc4 => exact rfl); k_whole; intro _ _ _ _ _ _ _ _ _; (try dsimp only); (try k_fold))
  k_steps
  rename_i kF kN Tc kX
  refine' list_own (A₀ := ktrTop dp un gd cn cs L a ccd cl []) (outer := [envX cn cs L a ccd cl]) (fs := fs) (sk := sk) rfl rfl rfl ?room ?units ?B kX Tc kF ?off ?hl ?hk ?D1 ?D2 ?s1 ?s2 ?ok1 ?ok2 hsz kN ?_
  case B => k_asm
  case hl => walk_at "MineMem"
  case hk => walk_at "MineMem"
  case D1 => exact hD1
  case D2 => exact hD2
  case room => walk_at "MineRoom"
  case units => walk_at "MineUnits"
  case ok1 => exact hf
  case ok2 => exact hk'
  case s1 => exact fun p hp => hs p hp
  case s2 => exact fun p hp => hs p hp
  · intro p hp
    obtain ⟨a1, a2, a3, a4⟩ := l1
    rcases List.mem_cons.mp hp with rfl | hp
    · exact Nat.ne_of_lt a1
    rcases List.mem_cons.mp hp with rfl | hp
    · exact Nat.ne_of_lt a2
    rcases List.mem_cons.mp hp with rfl | hp
    · exact Nat.ne_of_lt a3
    · exact Nat.ne_of_lt (ktn_ltOf a4 p hp)
  · intro S g' h' acc' c' tk' T' F' B' N' o' D'
    refine leaveS0_ F' N' T' (fun rF rN => ?_)
    refine hret (.ref S) [(S, lstO acc' c')] h' tk' rF (tl1 rN) ?_ (DatIn.list (List.mem_append.mpr (.inr (.head _))) (DatAll.mono (fun p hp => List.mem_append.mpr (.inl hp)) D'))
    intro q hq p hp
    rw [List.mem_singleton.mp hp]
    exact fun e => o' q hq e.symm

theorem ints_pick {vs : List Value} {ns : List Int} (h : IntsAre vs ns) (is : List Nat) : IntsAre (is.filterMap (vs.toArray[·]?)) (is.filterMap (ns[·]?)) := by
  have get : ∀ {vs : List Value} {ns : List Int}, IntsAre vs ns → ∀ i : Nat, (vs[i]? = none ∧ ns[i]? = none) ∨ ∃ n t, vs[i]? = some (.int n t) ∧ ns[i]? = some n := by
    intro vs ns h
    induction h with
    | nil => intro i; exact .inl ⟨rfl, rfl⟩
    | cons n t _ ih =>
      intro i
      cases i with
      | zero => exact .inr ⟨n, t, rfl, rfl⟩
      | succ i => simpa using ih i
  induction is with
  | nil => exact .nil
  | cons i is ih =>
    rcases get h i with ⟨h1, h2⟩ | ⟨n, t, h1, h2⟩
    · rw [List.filterMap_cons_none (by simpa using h1), List.filterMap_cons_none h2]; exact ih
    · rw [List.filterMap_cons_some (b := .int n t) (by simpa using h1), List.filterMap_cons_some h2]; exact .cons n t ih
theorem slice_ints {vs : List Value} {ns : List Int} (h : IntsAre vs ns) (a : Int) : ∃ ms, IntsAre (slicePick vs.toArray (some a) (some 18) (some 2)).toList ms ∧ ms.length ≤ 9 := by
  refine ⟨_, by unfold slicePick; exact ints_pick h _, ?_⟩
  refine Nat.le_trans (List.length_filterMap_le _ _) ?_
  have h1 : 0 ≤ (sliceBounds (some a) (some 18) (some 2) vs.toArray.size).1 := by
    simp only [sliceBounds, Option.getD_some]
    split <;> simp <;> omega
  have h2 : (sliceBounds (some a) (some 18) (some 2) vs.toArray.size).2.1 ≤ 18 := by
    simp only [sliceBounds, Option.getD_some]
    simp
    omega
  have h3 : (sliceBounds (some a) (some 18) (some 2) vs.toArray.size).2.2 = 2 := rfl
  rw [h3]
  generalize (sliceBounds (some a) (some 18) (some 2) vs.toArray.size).1 = x at *
  generalize (sliceBounds (some a) (some 18) (some 2) vs.toArray.size).2.1 = y at *
  simp only [sliceRange, List.length_map, List.length_range]
  rw [if_pos (by decide)]
  split <;> omega
theorem kqdPs_map : ∀ ds : List Dat, kqdPs ds = ds.map kqdP
  | [] => rfl
  | d :: ds => by rw [kqdPs, kqdPs_map ds]; rfl
theorem due_eq {α β : Type} (cs : List α) (d0 : α) (q : α → Bool) (T : α → β) : ((List.range cs.length).filter (fun k => q (cs.getD k d0))).map (fun k => T (cs.getD k d0)) = (cs.filter q).map T := by
  have e : (List.range cs.length).map (fun k => cs.getD k d0) = cs := by
    apply List.ext_getElem
    · simp
    · intro i h1 h2
      simp [List.getD, h2]
  have e2 : (cs.filter q).map T = (((List.range cs.length).map (fun k => cs.getD k d0)).filter q).map T := by rw [e]
  rw [e2, List.filter_map, List.map_map]
  rfl
section
variable {prog : Program} {w : World} {A : Around} {E : Value → Shared → Prop} {s : Shared} {h₀ : Heap} {L : Addr} {m : Str → Option Value} {news : List (Addr × Obj)}
theorem add_arr {l b : Addr} {vs ws : List Value} {Q : Value → Shared → Prop} (F : Fr h₀ L s.heap m) (N : News h₀ L s.heap news) (hl : s.heap.IsList l vs.toArray) (hb : s.heap.IsList b ws.toArray) (hv : vs.length ≤ 1000) (hw : ws.length ≤ 1000)
    (h : ∀ D h', Fr h₀ L h' m → News h₀ L h' ((D, W.listOf (vs ++ ws).toArray 0) :: news) → (∀ p ∈ news, p.1 < D) → Q (.ref D) { s with heap := h' }) :
    wpAny (model prog w) A (binaryOp .Add (.ref l) (.ref b)) Q E s :=
  add_arrays F N hl hb (fun h' F' N' => h _ h' F' N' fun p hp => Heap.lt_size (N p hp).1) (by simp only [List.size_toArray, sizeLine_eq]; omega)
theorem isL {h : Heap} {l : Addr} {its : Array Value} {k : Nat} (N : News h₀ L h news) (hm : (l, W.listOf its k) ∈ news) : h.IsList l its := ⟨_, (N _ hm).1, rfl, _, rfl⟩
end
theorem m2_other {m : Str → Option Value} {x a b : Str} {u v : Option Value} {w : Value} (h : m x = some w) (h1 : x ≠ a) (h2 : x ≠ b) : (fun z => if z = a then u else (fun z => if z = b then v else m z) z) x = some w := by
  simp only [h1, h2, if_false, h]
theorem datAll_flat {L L' : List (Addr × Obj)} : ∀ {vs : List Value} {ds : List Dat}, DatAll L vs ds → (∀ d ∈ ds, flat d = true) → DatAll L' vs ds
  | [], [], _, _ => .nil
  | _ :: _, _ :: _, .cons h1 h2, hf => .cons (datIn_flat h1 (hf _ (.head _))) (datAll_flat h2 fun d hd => hf d (.tail _ hd))
  | _ :: _, [], h, _ => nomatch h
  | [], _ :: _, h, _ => nomatch h

def placeS (x base number place : Int) : Int := number * base + Int.fmod (([0, 1, 7, 15] : List Int).getD (Int.fmod (Int.fdiv x place) 4).toNat 0) base
def absS (x base : Int) : Int := placeS x base (placeS x base (placeS x base 0 16) 4) 1
def numberS (x base : Int) : Int := if Int.fmod (Int.fdiv x 64) 2 = 1 then - absS x base else absS x base
theorem place_le {x b v p k : Int} (hb : 2 ≤ b) (hb2 : b ≤ 16) (h0 : 0 ≤ v) (hk : v ≤ k) : 0 ≤ placeS x b v p ∧ placeS x b v p ≤ 16 * k + 15 := by
  unfold placeS
  have h1 := Int.fmod_nonneg_of_pos (([0, 1, 7, 15] : List Int).getD (Int.fmod (Int.fdiv x p) 4).toNat 0) (show 0 < b by omega)
  have h2 := Int.fmod_lt_of_pos (([0, 1, 7, 15] : List Int).getD (Int.fmod (Int.fdiv x p) 4).toNat 0) (show 0 < b by omega)
  have h3 : 0 ≤ v * b := Int.mul_nonneg h0 (by omega)
  have h4 : v * b ≤ k * 16 := Int.mul_le_mul hk hb2 (by omega) (by omega)
  omega
theorem number_tel {w : World} {mean : ExcName → Option Value} {mg mb : Str → Option Value} (x base : Int) (hb1 : 2 ≤ base) (hb2 : base ≤ 16) : Tel PySem.Challenge.rw_ij0164_02.row.prog w (hd.heap_39 w.params) hd.view_39 (looseW hd.view_39 [Str.ofString "filterfalse"]) mean mg mb 157 10 (fun L vs => DatAll L vs [.int x, .int base]) (fun L r => DatIn L r (.int (numberS x base))) := by
  k_fill
  w_top off
  unfold Tel
  intro dp un gd cn cs a ccd cl outer A₀ base' h₀ L m news sub s vs Q E B F X N T hk hs hR hd hu hret
  cases hR with
  | cons h1 h2 =>
  cases h2 with
  | cons h2 h3 =>
  cases h3
  cases h1
  cases h2
  have p1 := place_le (x := x) (p := 16) hb1 hb2 (Int.le_refl 0) (Int.le_refl 0)
  have p2 := place_le (x := x) (p := 4) hb1 hb2 p1.1 p1.2
  refine wpAny_call ?_
  k_with_none
  k_with "MineMem" => (first | (with_reducible assumption) | (with_reducible exact List.mem_cons_self) | ((with_reducible refine List.mem_append.mpr (Or.inl ?_)); walk_at "MineMem") | ((with_reducible refine List.mem_append.mpr (Or.inr ?_)); walk_at "MineMem") | ((with_reducible refine List.mem_cons_of_mem _ ?_); walk_at "MineMem"))
  k_with "eval ListComp" => ((k_here; k_dflt (refine LCg.ListComp_U (F₀ := by k_asm) (by with_unfolding_all rfl) (by decide) (by rfl) (by decide) (by rfl) ?_)))
  k_with "MineItem" => (first | exact DatIn.none | exact DatIn.bool _ | exact DatIn.int _ _ | exact DatIn.str _ _ | assumption | (refine DatIn.mono ?_ (by assumption); (intro p hp; (try simp only [List.mem_append, List.mem_cons] at hp ⊢); grind)))
  k_with "MineLt" => (first | assumption | exact allLt_of (by assumption) | tbn_find | (simp only [AllLt, and_true]; tbn_conj))
  k_with "MineTup" => ((refine DatIn.tuple (List.mem_append.mpr (Or.inr (List.Mem.head _))) ?_; repeat' (first | exact DatAll.nil | refine DatAll.cons ?_ ?_ | walk_at "MineItem")))
  k_with "TurnEnd" => ((refine TurnEnd.intro [(_, _)] (by assumption) (tl1 (by assumption)) (off1 (by walk_at "MineLt")) (by walk_at "MineTup")))
  k_with "MineSub" => (first | exact fun _ h => h | assumption | (intro p hp; first | (exact List.Mem.tail _ (by assumption)) | (simp only [List.mem_append, List.mem_cons, List.not_mem_nil, or_false] at hp ⊢; grind)))
  k_with "subscriptTail" => ((k_here; (with_reducible show wpAny _ _ (subscriptTail _ _ (Value.ref _) (Value.int _ _)) _ _ _); k_dflt (refine' item_tupleT ?mwt ?mwa ?mwb ?mwc ?mwd ?_; (case mwt => exact News.isTup (by k_asm) (by walk_at "MineMem")); (case mwa => decide); (case mwb => decide); (case mwc => rfl); (case mwd => rfl); k_whole)))
  k_with "MineRoom" => (first | assumption | ktr_room | (dsimp only [ktrTop, Around.deeper, Around.in1] at *; simp only [recursionLimit] at *; omega))
  k_with "MineUnits" => (first | ktr_units | (have hcL9 := cLine_is; dsimp only [ktrTop, Around.deeper, Around.in1] at *; omega))
  k_with "And" => (((with_reducible show WrapAt _ _ ∧ _); k_dflt (refine ⟨WrapAt.of (by k_asm) (by walk_at "MineMemD"), ?_⟩); (try dsimp only [List.nil_append, List.cons_append])))
  k_with "eval Name" => ((k_here; (with_reducible show wpAny _ _ (eval (Expr.Name _ _) (compEnvC _ _ _ _)) _ _ _); k_dflt (first | refine LCgL.ld_own (by k_asm) (by walk_at "MineMem") (by assumption) (by assumption) ?_ | refine LCgL.ld_global (by k_asm) (by k_asm) (by k_asm) (by k_is) ?_ | refine LCgL.ld_built (by k_asm) (by k_asm) (by k_asm) (by k_is) (by boot_by_name) (by decide) ?_)))
  k_with "MineMemD" => ((repeat' (first | assumption | exact List.mem_cons_self | (refine List.mem_cons_of_mem _ ?_) | (refine List.mem_append.mpr (Or.inl ?_)) | fail "MineMemD")))
  k_with "exec For Name Tuple cons nil" => (refine Hid.out ?_)
  k_dflt ktr_enter
  k_steps
  unfold Hid
  refine seq_for (by k_asm) rfl ?_
  k_with_none
  k_with "MineMem" => (first | (with_reducible assumption) | (with_reducible exact List.mem_cons_self) | ((with_reducible refine List.mem_append.mpr (Or.inl ?_)); walk_at "MineMem") | ((with_reducible refine List.mem_append.mpr (Or.inr ?_)); walk_at "MineMem") | ((with_reducible refine List.mem_cons_of_mem _ ?_); walk_at "MineMem"))
  k_with "eval ListComp" => ((k_here; k_dflt (refine LCg.ListComp_U (F₀ := by k_asm) (by with_unfolding_all rfl) (by decide) (by rfl) (by decide) (by rfl) ?_)))
  k_with "MineItem" => (first | exact DatIn.none | exact DatIn.bool _ | exact DatIn.int _ _ | exact DatIn.str _ _ | assumption | (refine DatIn.mono ?_ (by assumption); (intro p hp; (try simp only [List.mem_append, List.mem_cons] at hp ⊢); grind)))
  k_with "MineLt" => (first | assumption | exact allLt_of (by assumption) | tbn_find | (simp only [AllLt, and_true]; tbn_conj))
  k_with "MineTup" => ((refine DatIn.tuple (List.mem_append.mpr (Or.inr (List.Mem.head _))) ?_; repeat' (first | exact DatAll.nil | refine DatAll.cons ?_ ?_ | walk_at "MineItem")))
  k_with "TurnEnd" => ((refine TurnEnd.intro [(_, _)] (by assumption) (tl1 (by assumption)) (off1 (by walk_at "MineLt")) (by walk_at "MineTup")))
  k_with "MineSub" => (first | exact fun _ h => h | assumption | (intro p hp; first | (exact List.Mem.tail _ (by assumption)) | (simp only [List.mem_append, List.mem_cons, List.not_mem_nil, or_false] at hp ⊢; grind)))
  k_with "subscriptTail" => ((k_here; (with_reducible show wpAny _ _ (subscriptTail _ _ (Value.ref _) (Value.int _ _)) _ _ _); k_dflt (refine' item_tupleT ?mwt ?mwa ?mwb ?mwc ?mwd ?_; (case mwt => exact News.isTup (by k_asm) (by walk_at "MineMem")); (case mwa => decide); (case mwb => decide); (case mwc => rfl); (case mwd => rfl); k_whole)))
  k_with "MineRoom" => (first | assumption | ktr_room | (dsimp only [ktrTop, Around.deeper, Around.in1] at *; simp only [recursionLimit] at *; omega))
  k_with "MineUnits" => (first | ktr_units | (have hcL9 := cLine_is; dsimp only [ktrTop, Around.deeper, Around.in1] at *; omega))
  k_with "And" => (((with_reducible show WrapAt _ _ ∧ _); k_dflt (refine ⟨WrapAt.of (by k_asm) (by walk_at "MineMemD"), ?_⟩); (try dsimp only [List.nil_append, List.cons_append])))
  k_with "eval Name" => ((k_here; (with_reducible show wpAny _ _ (eval (Expr.Name _ _) (compEnvC _ _ _ _)) _ _ _); k_dflt (first | refine LCgL.ld_own (by k_asm) (by walk_at "MineMem") (by assumption) (by assumption) ?_ | refine LCgL.ld_global (by k_asm) (by k_asm) (by k_asm) (by k_is) ?_ | refine LCgL.ld_built (by k_asm) (by k_asm) (by k_asm) (by k_is) (by boot_by_name) (by decide) ?_)))
  k_with "MineMemD" => ((repeat' (first | assumption | exact List.mem_cons_self | (refine List.mem_cons_of_mem _ ?_) | (refine List.mem_append.mpr (Or.inl ?_)) | fail "MineMemD")))
  k_steps
  rename Fr _ _ _ _ => F1
  rename News _ _ _ _ => N1
  rename_i D1 h1 l1
  refine ⟨true, D1, [_, _, _], _, _, _, _, rfl, rfl, rfl, F1, N1, .head _, ?_⟩
  clear F1
  iterate 3 (
    intro I oI h tk hI F9 N9 off
    try clear N1
    refine wpAny_assign_Name ?_
    k_with_none
    k_with "MineMem" => (first | (with_reducible assumption) | (with_reducible exact List.mem_cons_self) | ((with_reducible refine List.mem_append.mpr (Or.inl ?_)); walk_at "MineMem") | ((with_reducible refine List.mem_append.mpr (Or.inr ?_)); walk_at "MineMem") | ((with_reducible refine List.mem_cons_of_mem _ ?_); walk_at "MineMem"))
    k_with "eval ListComp" => ((k_here; k_dflt (refine LCg.ListComp_U (F₀ := by k_asm) (by with_unfolding_all rfl) (by decide) (by rfl) (by decide) (by rfl) ?_)))
    k_with "MineItem" => (first | exact DatIn.none | exact DatIn.bool _ | exact DatIn.int _ _ | exact DatIn.str _ _ | assumption | (refine DatIn.mono ?_ (by assumption); (intro p hp; (try simp only [List.mem_append, List.mem_cons] at hp ⊢); grind)))
    k_with "MineLt" => (first | assumption | exact allLt_of (by assumption) | tbn_find | (simp only [AllLt, and_true]; tbn_conj))
    k_with "MineTup" => ((refine DatIn.tuple (List.mem_append.mpr (Or.inr (List.Mem.head _))) ?_; repeat' (first | exact DatAll.nil | refine DatAll.cons ?_ ?_ | walk_at "MineItem")))
    k_with "TurnEnd" => ((refine TurnEnd.intro [(_, _)] (by assumption) (tl1 (by assumption)) (off1 (by walk_at "MineLt")) (by walk_at "MineTup")))
    k_with "MineSub" => (first | exact fun _ h => h | assumption | (intro p hp; first | (exact List.Mem.tail _ (by assumption)) | (simp only [List.mem_append, List.mem_cons, List.not_mem_nil, or_false] at hp ⊢; grind)))
    k_with "subscriptTail" => ((k_here; (with_reducible show wpAny _ _ (subscriptTail _ _ (Value.ref _) (Value.int _ _)) _ _ _); k_dflt (refine' item_tupleT ?mwt ?mwa ?mwb ?mwc ?mwd ?_; (case mwt => exact News.isTup (by k_asm) (by walk_at "MineMem")); (case mwa => decide); (case mwb => decide); (case mwc => rfl); (case mwd => rfl); k_whole)))
    k_with "MineRoom" => (first | assumption | ktr_room | (dsimp only [ktrTop, Around.deeper, Around.in1] at *; simp only [recursionLimit] at *; omega))
    k_with "MineUnits" => (first | ktr_units | (have hcL9 := cLine_is; dsimp only [ktrTop, Around.deeper, Around.in1] at *; omega))
    k_with "And" => (((with_reducible show WrapAt _ _ ∧ _); k_dflt (refine ⟨WrapAt.of (by k_asm) (by walk_at "MineMemD"), ?_⟩); (try dsimp only [List.nil_append, List.cons_append])))
    k_with "eval Name" => ((k_here; (with_reducible show wpAny _ _ (eval (Expr.Name _ _) (compEnvC _ _ _ _)) _ _ _); k_dflt (first | refine LCgL.ld_own (by k_asm) (by walk_at "MineMem") (by assumption) (by assumption) ?_ | refine LCgL.ld_global (by k_asm) (by k_asm) (by k_asm) (by k_is) ?_ | refine LCgL.ld_built (by k_asm) (by k_asm) (by k_asm) (by k_is) (by boot_by_name) (by decide) ?_)))
    k_with "MineMemD" => ((repeat' (first | assumption | exact List.mem_cons_self | (refine List.mem_cons_of_mem _ ?_) | (refine List.mem_append.mpr (Or.inl ?_)) | fail "MineMemD")))
    k_with "binaryOp Mult int int" => (k_dflt (refine mul_int ?_ (IntMulOk.of_right (intBits_le_64 (by omega) (by omega)))))
    k_with "SeqPost" => (refine Hid.out ?_)
    k_steps
    unfold Hid
    rename Fr _ _ _ _ => F2
    rename News _ _ _ _ => N2
    refine SeqEnd.intro (_ :: news) F2 (newsIn N2 ?_) hI ?_ ⟨.head _, ?_⟩
    · intro p hp
      exact .tail _ hp
    · exact off
    clear F2 N2 off hI)
  intro h9 tk9 F9 N9
  dsimp only
  k_with_none
  k_with "MineMem" => (first | (with_reducible assumption) | (with_reducible exact List.mem_cons_self) | ((with_reducible refine List.mem_append.mpr (Or.inl ?_)); walk_at "MineMem") | ((with_reducible refine List.mem_append.mpr (Or.inr ?_)); walk_at "MineMem") | ((with_reducible refine List.mem_cons_of_mem _ ?_); walk_at "MineMem"))
  k_with "eval ListComp" => ((k_here; k_dflt (refine LCg.ListComp_U (F₀ := by k_asm) (by with_unfolding_all rfl) (by decide) (by rfl) (by decide) (by rfl) ?_)))
  k_with "MineItem" => (first | exact DatIn.none | exact DatIn.bool _ | exact DatIn.int _ _ | exact DatIn.str _ _ | assumption | (refine DatIn.mono ?_ (by assumption); (intro p hp; (try simp only [List.mem_append, List.mem_cons] at hp ⊢); grind)))
  k_with "MineLt" => (first | assumption | exact allLt_of (by assumption) | tbn_find | (simp only [AllLt, and_true]; tbn_conj))
  k_with "MineTup" => ((refine DatIn.tuple (List.mem_append.mpr (Or.inr (List.Mem.head _))) ?_; repeat' (first | exact DatAll.nil | refine DatAll.cons ?_ ?_ | walk_at "MineItem")))
  k_with "TurnEnd" => ((refine TurnEnd.intro [(_, _)] (by assumption) (tl1 (by assumption)) (off1 (by walk_at "MineLt")) (by walk_at "MineTup")))
  k_with "MineSub" => (first | exact fun _ h => h | assumption | (intro p hp; first | (exact List.Mem.tail _ (by assumption)) | (simp only [List.mem_append, List.mem_cons, List.not_mem_nil, or_false] at hp ⊢; grind)))
  k_with "subscriptTail" => ((k_here; (with_reducible show wpAny _ _ (subscriptTail _ _ (Value.ref _) (Value.int _ _)) _ _ _); k_dflt (refine' item_tupleT ?mwt ?mwa ?mwb ?mwc ?mwd ?_; (case mwt => exact News.isTup (by k_asm) (by walk_at "MineMem")); (case mwa => decide); (case mwb => decide); (case mwc => rfl); (case mwd => rfl); k_whole)))
  k_with "MineRoom" => (first | assumption | ktr_room | (dsimp only [ktrTop, Around.deeper, Around.in1] at *; simp only [recursionLimit] at *; omega))
  k_with "MineUnits" => (first | ktr_units | (have hcL9 := cLine_is; dsimp only [ktrTop, Around.deeper, Around.in1] at *; omega))
  k_with "And" => (((with_reducible show WrapAt _ _ ∧ _); k_dflt (refine ⟨WrapAt.of (by k_asm) (by walk_at "MineMemD"), ?_⟩); (try dsimp only [List.nil_append, List.cons_append])))
  k_with "eval Name" => ((k_here; (with_reducible show wpAny _ _ (eval (Expr.Name _ _) (compEnvC _ _ _ _)) _ _ _); k_dflt (first | refine LCgL.ld_own (by k_asm) (by walk_at "MineMem") (by assumption) (by assumption) ?_ | refine LCgL.ld_global (by k_asm) (by k_asm) (by k_asm) (by k_is) ?_ | refine LCgL.ld_built (by k_asm) (by k_asm) (by k_asm) (by k_is) (by boot_by_name) (by decide) ?_)))
  k_with "MineMemD" => ((repeat' (first | assumption | exact List.mem_cons_self | (refine List.mem_cons_of_mem _ ?_) | (refine List.mem_append.mpr (Or.inl ?_)) | fail "MineMemD")))
  k_steps
  all_goals (refine hret _ [] _ _ (by assumption) (newsIn (by assumption) (by intro p hp; rw [List.append_nil] at hp; exact .tail _ hp)) off0 ?_)
  · unfold numberS; rw [if_pos (by assumption)]; exact DatIn.int _ _
  · unfold numberS; rw [if_neg (by assumption)]; exact DatIn.int _ _

def figsL (base w fl : Int) : Nat → Int → List Int → List Int
  | 0, _, fs => fs
  | k + 1, l, fs => if 0 < l ∨ fs = [] ∨ fl + (fs.length : Int) < w then figsL base w fl k (Int.fdiv l base) (Int.fmod l base :: fs) else fs
def frontS (n : Int) (sg : Str) : Str := if n < 0 then Str.ofString "-" else if sg = Str.ofString "-" then Str.ofString "" else sg
def figS (n base : Int) (sg : Str) (w : Int) : List Int := figsL base w ((frontS n sg).length : Nat) 13 (n.natAbs : Nat) []
def numlD (n base : Int) (sg : Str) (w : Int) : Dat := .tuple [.str (frontS n sg), .list ((figS n base sg w).map Dat.int)]
def NumlInv (g1 : Heap) (L1 : Addr) (news : List (Addr × Obj)) (s : Shared) (n base : Int) (sg : Str) (w0 : Int) (s' : Shared) : Prop :=
  ∃ (k : Nat) (l : Int) (fs : List Int) (S : Addr) (vs : List Value) (c : Nat) (mm : Str → Option Value) (h : Heap) (tk : Nat), s' = { s with heap := h, toks := tk } ∧ Fr g1 L1 h mm ∧ News g1 L1 h ((S, W.listOf vs.toArray c) :: news) ∧ (∀ p ∈ news, p.1 ≠ S) ∧
    DatAll [] vs (fs.map Dat.int) ∧ (∃ t, mm (Str.ofString "left") = some (.int l t)) ∧ mm (Str.ofString "figures") = some (.ref S) ∧ (∃ t, mm (Str.ofString "front") = some (.str (frontS n sg) t)) ∧ (∃ t, mm (Str.ofString "base") = some (.int base t)) ∧ (∃ t, mm (Str.ofString "width") = some (.int w0 t)) ∧
    figsL base w0 ((frontS n sg).length : Nat) k l fs = figS n base sg w0 ∧ 0 ≤ l ∧ 1 ≤ k ∧ l < 2 ^ (k - 1) ∧ w0 - ((frontS n sg).length : Nat) - (fs.length : Int) + 1 ≤ k ∧ (fs = [] → 2 ≤ k) ∧ (fs.length : Int) + k ≤ 13
theorem gen_numl {P : Shared → Prop} {sx : Shared} {g1 h : Heap} {L1 : Addr} {mm : Str → Option Value} {news : List (Addr × Obj)} {s : Shared} {n base : Int} {sg : Str} {w0 : Int} (_F : Fr g1 L1 h mm) (hI : NumlInv g1 L1 news s n base sg w0 sx)
    (k : ∀ s', NumlInv g1 L1 news s n base sg w0 s' → P s') : P sx := k sx hI
theorem front_neg {n : Int} {sg : Str} (h : n < 0) : frontS n sg = Str.ofString "-" := if_pos h
theorem front_min {n : Int} {sg : Str} (h : ¬ n < 0) (h2 : (sg == Str.ofString "-") = true) : frontS n sg = Str.ofString "" := by
  unfold frontS
  rw [if_neg h, if_pos (eq_of_beq h2)]
theorem front_oth {n : Int} {sg : Str} (h : ¬ n < 0) (h2 : (sg == Str.ofString "-") = false) : frontS n sg = sg := by
  unfold frontS
  rw [if_neg h, if_neg (fun e => by rw [e] at h2; simp at h2)]
theorem front_le {n : Int} {sg : Str} (h : sg.length ≤ 1) : (frontS n sg).length ≤ 1 := by
  unfold frontS
  repeat' split
  · decide
  · decide
  · exact h
def TestEnd (g1 : Heap) (L1 : Addr) (mm : Str → Option Value) (S : Addr) (vv : List Value) (c : Nat) (news : List (Addr × Obj)) (s : Shared) (cond b : Bool) (s₂ : Shared) : Prop :=
  b = cond ∧ ∃ h tk, s₂ = { s with heap := h, toks := tk } ∧ Fr g1 L1 h mm ∧ News g1 L1 h ((S, W.listOf vv.toArray c) :: news)
theorem TestEnd.intro {g1 h : Heap} {L1 : Addr} {mm : Str → Option Value} {S : Addr} {vv : List Value} {c : Nat} {news : List (Addr × Obj)} {s : Shared} {cond b : Bool} {tk : Nat} (F : Fr g1 L1 h mm) (N : News g1 L1 h ((S, W.listOf vv.toArray c) :: news)) (hb : b = cond) :
    TestEnd g1 L1 mm S vv c news s cond b { s with heap := h, toks := tk } := ⟨hb, h, tk, rfl, F, N⟩
theorem test_mono {M : Model} {A : Around} {E : Value → Shared → Prop} {t : Sem Bool} {Q : Bool → Shared → Prop} {sx : Shared} {g1 h : Heap} {L1 : Addr} {mm : Str → Option Value} {S : Addr} {vv : List Value} {c : Nat} {news : List (Addr × Obj)} {s : Shared} {cond : Bool} (_F : Fr g1 L1 h mm)
    (h1 : wpAny M A t (TestEnd g1 L1 mm S vv c news s cond) E sx) (k : ∀ b s₂, TestEnd g1 L1 mm S vv c news s cond b s₂ → Q b s₂) : wpAny M A t Q E sx := wpAny_mono h1 k (fun _ _ e => e)
theorem nil_eq (fs : List Int) : PyData.eqv (kqdP (.list (fs.map Dat.int))) (kqdP (.list [])) = decide (fs = []) := by
  cases fs <;> simp [kqdP, kqdPs, PyData.eqv, PyData.eqvAll]
theorem fdiv_half {l b : Int} {k : Nat} (h0 : 0 ≤ l) (hk : l < 2 ^ (k + 1)) (hb : 2 ≤ b) : 0 ≤ Int.fdiv l b ∧ Int.fdiv l b < 2 ^ k := by
  have e : Int.fdiv l b = l / b := Int.fdiv_eq_ediv_of_nonneg _ (by omega)
  rw [e]
  refine ⟨Int.ediv_nonneg h0 (by omega), ?_⟩
  refine Int.ediv_lt_of_lt_mul (by omega) ?_
  rw [Int.pow_succ] at hk
  have h1 : (0 : Int) < 2 ^ k := Int.pow_pos (by decide)
  have h2 : (2 : Int) ^ k * 2 ≤ 2 ^ k * b := Int.mul_le_mul_of_nonneg_left hb (by omega)
  omega
theorem numeral_tel {w : World} {mean : ExcName → Option Value} {mg mb : Str → Option Value} (n base w0 : Int) (sg : Str) (hn : n.natAbs ≤ 4095) (hb1 : 2 ≤ base) (hb2 : base ≤ 16) (hw : 1 ≤ w0) (hw2 : w0 ≤ 5) (hsg : sg.length ≤ 1) :
    Tel PySem.Challenge.rw_ij0164_02.row.prog w (hd.heap_39 w.params) hd.view_39 (looseW hd.view_39 [Str.ofString "filterfalse"]) mean mg mb 164 80 (fun L vs => DatAll L vs [.int n, .int base, .str sg, .int w0]) (fun L r => DatIn L r (numlD n base sg w0)) := by
  k_fill
  w_top off
  unfold Tel
  intro dp un gd cn cs a ccd cl outer A₀ base' h₀ L m news sub s vs Q E B F X N T hk hs hR hd hu hret
  cases hR with
  | cons h1 hR =>
  cases hR with
  | cons h2 hR =>
  cases hR with
  | cons h3 hR =>
  cases hR with
  | cons h4 hR =>
  cases hR
  cases h1
  cases h2
  cases h3
  cases h4
  k_with_none
  k_with "MineMem" => (first | (with_reducible assumption) | (with_reducible exact List.mem_cons_self) | ((with_reducible refine List.mem_append.mpr (Or.inl ?_)); walk_at "MineMem") | ((with_reducible refine List.mem_append.mpr (Or.inr ?_)); walk_at "MineMem") | ((with_reducible refine List.mem_cons_of_mem _ ?_); walk_at "MineMem"))
  k_with "eval ListComp" => ((k_here; k_dflt (refine LCg.ListComp_U (F₀ := by k_asm) (by with_unfolding_all rfl) (by decide) (by rfl) (by decide) (by rfl) ?_)))
  k_with "MineItem" => (first | exact DatIn.none | exact DatIn.bool _ | exact DatIn.int _ _ | exact DatIn.str _ _ | assumption | (refine DatIn.mono ?_ (by assumption); (intro p hp; (try simp only [List.mem_append, List.mem_cons] at hp ⊢); grind)))
  k_with "MineLt" => (first | assumption | exact allLt_of (by assumption) | tbn_find | (simp only [AllLt, and_true]; tbn_conj))
  k_with "MineTup" => ((refine DatIn.tuple (List.mem_append.mpr (Or.inr (List.Mem.head _))) ?_; repeat' (first | exact DatAll.nil | refine DatAll.cons ?_ ?_ | walk_at "MineItem")))
  k_with "TurnEnd" => ((refine TurnEnd.intro [(_, _)] (by assumption) (tl1 (by assumption)) (off1 (by walk_at "MineLt")) (by walk_at "MineTup")))
  k_with "MineSub" => (first | exact fun _ h => h | assumption | (intro p hp; first | (exact List.Mem.tail _ (by assumption)) | (simp only [List.mem_append, List.mem_cons, List.not_mem_nil, or_false] at hp ⊢; grind)))
  k_with "subscriptTail" => ((k_here; (with_reducible show wpAny _ _ (subscriptTail _ _ (Value.ref _) (Value.int _ _)) _ _ _); k_dflt (refine' item_tupleT ?mwt ?mwa ?mwb ?mwc ?mwd ?_; (case mwt => exact News.isTup (by k_asm) (by walk_at "MineMem")); (case mwa => decide); (case mwb => decide); (case mwc => rfl); (case mwd => rfl); k_whole)))
  k_with "MineRoom" => (first | assumption | ktr_room | (dsimp only [ktrTop, Around.deeper, Around.in1] at *; simp only [recursionLimit] at *; omega))
  k_with "MineUnits" => (first | ktr_units | (have hcL9 := cLine_is; dsimp only [ktrTop, Around.deeper, Around.in1] at *; omega))
  k_with "And" => (((with_reducible show WrapAt _ _ ∧ _); k_dflt (refine ⟨WrapAt.of (by k_asm) (by walk_at "MineMemD"), ?_⟩); (try dsimp only [List.nil_append, List.cons_append])))
  k_with "eval Name" => ((k_here; (with_reducible show wpAny _ _ (eval (Expr.Name _ _) (compEnvC _ _ _ _)) _ _ _); k_dflt (first | refine LCgL.ld_own (by k_asm) (by walk_at "MineMem") (by assumption) (by assumption) ?_ | refine LCgL.ld_global (by k_asm) (by k_asm) (by k_asm) (by k_is) ?_ | refine LCgL.ld_built (by k_asm) (by k_asm) (by k_asm) (by k_is) (by boot_by_name) (by decide) ?_)))
  k_with "MineMemD" => ((repeat' (first | assumption | exact List.mem_cons_self | (refine List.mem_cons_of_mem _ ?_) | (refine List.mem_append.mpr (Or.inl ?_)) | fail "MineMemD")))
  k_with "exec" => ((with_reducible show wpAny _ _ (exec (Stmt.While _ _ _ _) _) _ _ _); refine whl_start 0 (Hid.out ?_))
  refine wpAny_call ?_
  k_dflt ktr_enter
  k_steps
  all_goals (
    rename Fr _ _ _ _ => F1
    rename News _ _ _ _ => N1
    unfold Hid
    refine gen_numl (news := news) (s := s) (n := n) (base := base) (sg := sg) (w0 := w0) F1 ?_ ?_
    · have hl : (if n < 0 then -n else n) = ((n.natAbs : Nat) : Int) := by split <;> omega
      rw [hl] at F1
      have hfr := front_le (n := n) hsg
      refine ⟨13, (n.natAbs : Nat), [], _, [], 0, _, _, _, rfl, F1, N1, (fun p hp => Nat.ne_of_lt ((by assumption : ∀ p ∈ news, p.1 < _) p hp)), .nil, ⟨_, by rfl⟩, by rfl, ⟨_, by (first | (rw [front_neg (by assumption)]; rfl) | (rw [front_min (by assumption) (by assumption)]; rfl) | (rw [front_oth (by assumption) (by assumption)]; rfl))⟩, ⟨_, by rfl⟩, ⟨_, by rfl⟩, rfl, by omega, by decide, by omega, by simp; omega, (fun _ => by decide), by simp⟩
    clear F1 N1
    rintro s' ⟨k, l, fs, S, vv, c, mm, h, tk, rfl, F2, N2, offS, DV, ⟨q1, e1⟩, e2, ⟨q3, e3⟩, ⟨q4, e4⟩, ⟨q5, e5⟩, hfig, hl0, hk1, hlk, hwk, hne, hlen⟩
    induction k generalizing l fs S vv c mm h tk q1 q3 q4 q5 with
    | zero => exact absurd hk1 (by decide)
    | succ k ih =>
      refine whl_turn (k := 0) (by passes_own) ?_
      have hvl : vv.toArray.size = fs.length := by have q := DV.length; rw [List.length_map] at q; rw [List.size_toArray]; exact q
      have hvl2 : vv.length = fs.length := by rw [← List.size_toArray]; exact hvl
      have hfli : ∀ d ∈ fs.map Dat.int, flat d = true := fun d hd => by obtain ⟨i, _, rfl⟩ := List.mem_map.mp hd; rfl
      have hoki : okD 8 (.list (fs.map Dat.int)) = true := by
        simp only [okD, List.all_eq_true]
        intro d hd
        obtain ⟨i, _, rfl⟩ := List.mem_map.mp hd
        rfl
      refine test_mono (S := S) (vv := vv) (c := c) (news := news) (s := s) (cond := decide (0 < l ∨ fs = [] ∨ ((frontS n sg).length : Nat) + (fs.length : Int) < w0)) F2 ?_ (fun b s₂ hq => ?_)
      · k_with_none
        k_with "MineMem" => (first | (with_reducible assumption) | (with_reducible exact List.mem_cons_self) | ((with_reducible refine List.mem_append.mpr (Or.inl ?_)); walk_at "MineMem") | ((with_reducible refine List.mem_append.mpr (Or.inr ?_)); walk_at "MineMem") | ((with_reducible refine List.mem_cons_of_mem _ ?_); walk_at "MineMem"))
        k_with "eval ListComp" => ((k_here; k_dflt (refine LCg.ListComp_U (F₀ := by k_asm) (by with_unfolding_all rfl) (by decide) (by rfl) (by decide) (by rfl) ?_)))
        k_with "MineItem" => (first | exact DatIn.none | exact DatIn.bool _ | exact DatIn.int _ _ | exact DatIn.str _ _ | assumption | (refine DatIn.mono ?_ (by assumption); (intro p hp; (try simp only [List.mem_append, List.mem_cons] at hp ⊢); grind)))
        k_with "MineLt" => (first | assumption | exact allLt_of (by assumption) | tbn_find | (simp only [AllLt, and_true]; tbn_conj))
        k_with "MineTup" => ((refine DatIn.tuple (List.mem_append.mpr (Or.inr (List.Mem.head _))) ?_; repeat' (first | exact DatAll.nil | refine DatAll.cons ?_ ?_ | walk_at "MineItem")))
        k_with "TurnEnd" => ((refine TurnEnd.intro [(_, _)] (by assumption) (tl1 (by assumption)) (off1 (by walk_at "MineLt")) (by walk_at "MineTup")))
        k_with "MineSub" => (first | exact fun _ h => h | assumption | (intro p hp; first | (exact List.Mem.tail _ (by assumption)) | (simp only [List.mem_append, List.mem_cons, List.not_mem_nil, or_false] at hp ⊢; grind)))
        k_with "subscriptTail" => ((k_here; (with_reducible show wpAny _ _ (subscriptTail _ _ (Value.ref _) (Value.int _ _)) _ _ _); k_dflt (refine' item_tupleT ?mwt ?mwa ?mwb ?mwc ?mwd ?_; (case mwt => exact News.isTup (by k_asm) (by walk_at "MineMem")); (case mwa => decide); (case mwb => decide); (case mwc => rfl); (case mwd => rfl); k_whole)))
        k_with "MineRoom" => (first | assumption | ktr_room | (dsimp only [ktrTop, Around.deeper, Around.in1] at *; simp only [recursionLimit] at *; omega))
        k_with "MineUnits" => (first | ktr_units | (have hcL9 := cLine_is; dsimp only [ktrTop, Around.deeper, Around.in1] at *; omega))
        k_with "And" => (((with_reducible show WrapAt _ _ ∧ _); k_dflt (refine ⟨WrapAt.of (by k_asm) (by walk_at "MineMemD"), ?_⟩); (try dsimp only [List.nil_append, List.cons_append])))
        k_with "eval Name" => ((k_here; (with_reducible show wpAny _ _ (eval (Expr.Name _ _) (compEnvC _ _ _ _)) _ _ _); k_dflt (first | refine LCgL.ld_own (by k_asm) (by walk_at "MineMem") (by assumption) (by assumption) ?_ | refine LCgL.ld_global (by k_asm) (by k_asm) (by k_asm) (by k_is) ?_ | refine LCgL.ld_built (by k_asm) (by k_asm) (by k_asm) (by k_is) (by boot_by_name) (by decide) ?_)))
        k_with "MineMemD" => ((repeat' (first | assumption | exact List.mem_cons_self | (refine List.mem_cons_of_mem _ ?_) | (refine List.mem_append.mpr (Or.inl ?_)) | fail "MineMemD")))
        k_with "eval Name" => ((with_reducible show wpAny _ _ (eval (Expr.Name _ _) (envOf _ _ _ _ _)) _ _ _); k_dflt (refine ld (by k_asm) (by first | exact e1 | exact e2 | exact e3 | exact e4 | exact e5) ?_))
        k_with "compareOp Eq ref ref" => (refine Hid.out ?_)
        k_with "call builtin:len" => first
          | (k_dflt (refine len_list (isL (by k_asm) (by walk_at "MineMem" : (S, W.listOf vv.toArray c) ∈ _)) (by rw [hvl]; omega) ?_); rw [hvl])
          | (k_dflt (refine len_str (by have hfr := front_le (n := n) hsg; omega) ?_))
        k_steps
        · exact TestEnd.intro F2 N2 (decide_eq_true (Or.inl (by assumption))).symm
        rename News _ _ _ _ => N3
        unfold Hid
        refine d_eq (da := .list (fs.map Dat.int)) (db := .list []) (n₁ := [(S, W.listOf vv.toArray c)]) (n₂ := _) N3 (DatIn.list (List.Mem.head _) (datAll_flat DV hfli)) (fun p hp => by rw [List.mem_singleton.mp hp]; exact .tail _ (.head _)) (DatIn.list (List.Mem.head _) .nil) (fun _ h => h) hoki rfl (by first | units_room | walk_at "MineUnits") ?_
        rw [nil_eq]
        by_cases hf : fs = []
        · rw [decide_eq_true hf]
          k_steps
          exact TestEnd.intro (by assumption) (newsIn N3 (fun p hp => .tail _ hp)) (decide_eq_true (Or.inr (Or.inl hf))).symm
        · rw [decide_eq_false hf]
          k_steps
          · rename Fr _ _ _ _ => F4
            exact TestEnd.intro F4 (newsIn N3 (fun p hp => .tail _ hp)) (decide_eq_true (Or.inr (Or.inr (by assumption)))).symm
          · rename Fr _ _ _ _ => F4
            exact TestEnd.intro F4 (newsIn N3 (fun p hp => .tail _ hp)) (decide_eq_false (fun hh => by rcases hh with hh | hh | hh <;> first | exact absurd hh hf | exact absurd hh (by assumption))).symm
      · obtain ⟨rfl, h2, tk2, rfl, F3, N3⟩ := hq
        clear F2 N2
        rw [Nat.add_sub_cancel] at hlk
        by_cases hc : 0 < l ∨ fs = [] ∨ ((frontS n sg).length : Nat) + (fs.length : Int) < w0
        · rw [decide_eq_true hc]
          refine WhlIf.yes rfl ?_
          have hk2 : 1 ≤ k := by
            rcases Nat.eq_zero_or_pos k with h0 | h0
            · subst h0
              rcases hc with hc | hc | hc
              · have : l < 1 := hlk
                omega
              · exact absurd (hne hc) (by decide)
              · omega
            · exact h0
          obtain ⟨k', rfl⟩ : ∃ k', k = k' + 1 := ⟨k - 1, by omega⟩
          have hdiv := fdiv_half (b := base) hl0 hlk hb1
          have hfig2 : figsL base w0 ((frontS n sg).length : Nat) (k' + 1) (Int.fdiv l base) (Int.fmod l base :: fs) = figS n base sg w0 := by
            rw [← hfig]
            show _ = (if _ then _ else _)
            rw [if_pos hc]
          k_with_none
          k_with "MineMem" => (first | (with_reducible assumption) | (with_reducible exact List.mem_cons_self) | ((with_reducible refine List.mem_append.mpr (Or.inl ?_)); walk_at "MineMem") | ((with_reducible refine List.mem_append.mpr (Or.inr ?_)); walk_at "MineMem") | ((with_reducible refine List.mem_cons_of_mem _ ?_); walk_at "MineMem"))
          k_with "eval ListComp" => ((k_here; k_dflt (refine LCg.ListComp_U (F₀ := by k_asm) (by with_unfolding_all rfl) (by decide) (by rfl) (by decide) (by rfl) ?_)))
          k_with "MineItem" => (first | exact DatIn.none | exact DatIn.bool _ | exact DatIn.int _ _ | exact DatIn.str _ _ | assumption | (refine DatIn.mono ?_ (by assumption); (intro p hp; (try simp only [List.mem_append, List.mem_cons] at hp ⊢); grind)))
          k_with "MineLt" => (first | assumption | exact allLt_of (by assumption) | tbn_find | (simp only [AllLt, and_true]; tbn_conj))
          k_with "MineTup" => ((refine DatIn.tuple (List.mem_append.mpr (Or.inr (List.Mem.head _))) ?_; repeat' (first | exact DatAll.nil | refine DatAll.cons ?_ ?_ | walk_at "MineItem")))
          k_with "TurnEnd" => ((refine TurnEnd.intro [(_, _)] (by assumption) (tl1 (by assumption)) (off1 (by walk_at "MineLt")) (by walk_at "MineTup")))
          k_with "MineSub" => (first | exact fun _ h => h | assumption | (intro p hp; first | (exact List.Mem.tail _ (by assumption)) | (simp only [List.mem_append, List.mem_cons, List.not_mem_nil, or_false] at hp ⊢; grind)))
          k_with "subscriptTail" => ((k_here; (with_reducible show wpAny _ _ (subscriptTail _ _ (Value.ref _) (Value.int _ _)) _ _ _); k_dflt (refine' item_tupleT ?mwt ?mwa ?mwb ?mwc ?mwd ?_; (case mwt => exact News.isTup (by k_asm) (by walk_at "MineMem")); (case mwa => decide); (case mwb => decide); (case mwc => rfl); (case mwd => rfl); k_whole)))
          k_with "MineRoom" => (first | assumption | ktr_room | (dsimp only [ktrTop, Around.deeper, Around.in1] at *; simp only [recursionLimit] at *; omega))
          k_with "MineUnits" => (first | ktr_units | (have hcL9 := cLine_is; dsimp only [ktrTop, Around.deeper, Around.in1] at *; omega))
          k_with "And" => (((with_reducible show WrapAt _ _ ∧ _); k_dflt (refine ⟨WrapAt.of (by k_asm) (by walk_at "MineMemD"), ?_⟩); (try dsimp only [List.nil_append, List.cons_append])))
          k_with "eval Name" => ((k_here; (with_reducible show wpAny _ _ (eval (Expr.Name _ _) (compEnvC _ _ _ _)) _ _ _); k_dflt (first | refine LCgL.ld_own (by k_asm) (by walk_at "MineMem") (by assumption) (by assumption) ?_ | refine LCgL.ld_global (by k_asm) (by k_asm) (by k_asm) (by k_is) ?_ | refine LCgL.ld_built (by k_asm) (by k_asm) (by k_asm) (by k_is) (by boot_by_name) (by decide) ?_)))
          k_with "MineMemD" => ((repeat' (first | assumption | exact List.mem_cons_self | (refine List.mem_cons_of_mem _ ?_) | (refine List.mem_append.mpr (Or.inl ?_)) | fail "MineMemD")))
          k_with "eval Name" => ((with_reducible show wpAny _ _ (eval (Expr.Name _ _) (envOf _ _ _ _ _)) _ _ _); k_dflt (refine ld (by k_asm) (by first | exact e1 | exact e2 | exact e3 | exact e4 | exact e5) ?_))
          k_with "binaryOp Add ref ref" => (refine Hid.out ?_)
          k_steps
          rename News _ _ _ _ => N5
          rename Fr _ _ _ _ => F5
          unfold Hid
          refine add_arr (vs := [_]) (ws := vv) F5 N5 (isL N5 (.head _)) (isL N5 (.tail _ (.head _))) (by show 1 ≤ 1000; decide) (by rw [hvl2]; omega) ?_
          intro S6 h6 F6 N6 l6
          have offS6 : ∀ p ∈ news, p.1 ≠ S6 := fun p hp => Nat.ne_of_lt (l6 p (.tail _ (.tail _ hp)))
          clear N5 F5
          dsimp only
          k_with_none
          k_with "MineMem" => (first | (with_reducible assumption) | (with_reducible exact List.mem_cons_self) | ((with_reducible refine List.mem_append.mpr (Or.inl ?_)); walk_at "MineMem") | ((with_reducible refine List.mem_append.mpr (Or.inr ?_)); walk_at "MineMem") | ((with_reducible refine List.mem_cons_of_mem _ ?_); walk_at "MineMem"))
          k_with "eval ListComp" => ((k_here; k_dflt (refine LCg.ListComp_U (F₀ := by k_asm) (by with_unfolding_all rfl) (by decide) (by rfl) (by decide) (by rfl) ?_)))
          k_with "MineItem" => (first | exact DatIn.none | exact DatIn.bool _ | exact DatIn.int _ _ | exact DatIn.str _ _ | assumption | (refine DatIn.mono ?_ (by assumption); (intro p hp; (try simp only [List.mem_append, List.mem_cons] at hp ⊢); grind)))
          k_with "MineLt" => (first | assumption | exact allLt_of (by assumption) | tbn_find | (simp only [AllLt, and_true]; tbn_conj))
          k_with "MineTup" => ((refine DatIn.tuple (List.mem_append.mpr (Or.inr (List.Mem.head _))) ?_; repeat' (first | exact DatAll.nil | refine DatAll.cons ?_ ?_ | walk_at "MineItem")))
          k_with "TurnEnd" => ((refine TurnEnd.intro [(_, _)] (by assumption) (tl1 (by assumption)) (off1 (by walk_at "MineLt")) (by walk_at "MineTup")))
          k_with "MineSub" => (first | exact fun _ h => h | assumption | (intro p hp; first | (exact List.Mem.tail _ (by assumption)) | (simp only [List.mem_append, List.mem_cons, List.not_mem_nil, or_false] at hp ⊢; grind)))
          k_with "subscriptTail" => ((k_here; (with_reducible show wpAny _ _ (subscriptTail _ _ (Value.ref _) (Value.int _ _)) _ _ _); k_dflt (refine' item_tupleT ?mwt ?mwa ?mwb ?mwc ?mwd ?_; (case mwt => exact News.isTup (by k_asm) (by walk_at "MineMem")); (case mwa => decide); (case mwb => decide); (case mwc => rfl); (case mwd => rfl); k_whole)))
          k_with "MineRoom" => (first | assumption | ktr_room | (dsimp only [ktrTop, Around.deeper, Around.in1] at *; simp only [recursionLimit] at *; omega))
          k_with "MineUnits" => (first | ktr_units | (have hcL9 := cLine_is; dsimp only [ktrTop, Around.deeper, Around.in1] at *; omega))
          k_with "And" => (((with_reducible show WrapAt _ _ ∧ _); k_dflt (refine ⟨WrapAt.of (by k_asm) (by walk_at "MineMemD"), ?_⟩); (try dsimp only [List.nil_append, List.cons_append])))
          k_with "eval Name" => ((k_here; (with_reducible show wpAny _ _ (eval (Expr.Name _ _) (compEnvC _ _ _ _)) _ _ _); k_dflt (first | refine LCgL.ld_own (by k_asm) (by walk_at "MineMem") (by assumption) (by assumption) ?_ | refine LCgL.ld_global (by k_asm) (by k_asm) (by k_asm) (by k_is) ?_ | refine LCgL.ld_built (by k_asm) (by k_asm) (by k_asm) (by k_is) (by boot_by_name) (by decide) ?_)))
          k_with "MineMemD" => ((repeat' (first | assumption | exact List.mem_cons_self | (refine List.mem_cons_of_mem _ ?_) | (refine List.mem_append.mpr (Or.inl ?_)) | fail "MineMemD")))
          k_with "eval Name" => ((with_reducible show wpAny _ _ (eval (Expr.Name _ _) (envOf _ _ _ _ _)) _ _ _); k_dflt (refine ld (by k_asm) (by first | exact e1 | exact e3 | exact e4 | exact e5) ?_))
          k_with "WhlPost" => (refine Hid.out ?_)
          k_steps
          rename News _ _ _ _ => N7
          rename Fr _ _ _ _ => F7
          unfold Hid
          have hln : ((Int.fmod l base :: fs).length : Int) = (fs.length : Int) + 1 := by simp
          exact ih (Int.fdiv l base) (Int.fmod l base :: fs) S6 ([Value.int (Int.fmod l base) _] ++ vv) 0 _ _ _ F7 (newsIn N7 (fun p hp => by
            rcases List.mem_cons.mp hp with rfl | hp
            · exact .head _
            · exact .tail _ (.tail _ (.tail _ hp)))) offS6 (.cons (.int _ _) DV) _ (by rfl) (by rfl) _ (m2_other e3 (by decide) (by decide)) _ (m2_other e4 (by decide) (by decide)) _ (m2_other e5 (by decide) (by decide)) hfig2 hdiv.1 (by omega) (by rw [Nat.add_sub_cancel]; exact hdiv.2) (by rw [hln]; omega) (fun e => nomatch e) (by rw [hln]; omega)
        · rw [decide_eq_false hc]
          refine WhlIf.no rfl ?_
          k_with_none
          k_with "MineMem" => (first | (with_reducible assumption) | (with_reducible exact List.mem_cons_self) | ((with_reducible refine List.mem_append.mpr (Or.inl ?_)); walk_at "MineMem") | ((with_reducible refine List.mem_append.mpr (Or.inr ?_)); walk_at "MineMem") | ((with_reducible refine List.mem_cons_of_mem _ ?_); walk_at "MineMem"))
          k_with "eval ListComp" => ((k_here; k_dflt (refine LCg.ListComp_U (F₀ := by k_asm) (by with_unfolding_all rfl) (by decide) (by rfl) (by decide) (by rfl) ?_)))
          k_with "MineItem" => (first | exact DatIn.none | exact DatIn.bool _ | exact DatIn.int _ _ | exact DatIn.str _ _ | assumption | (refine DatIn.mono ?_ (by assumption); (intro p hp; (try simp only [List.mem_append, List.mem_cons] at hp ⊢); grind)))
          k_with "MineLt" => (first | assumption | exact allLt_of (by assumption) | tbn_find | (simp only [AllLt, and_true]; tbn_conj))
          k_with "MineTup" => ((refine DatIn.tuple (List.mem_append.mpr (Or.inr (List.Mem.head _))) ?_; repeat' (first | exact DatAll.nil | refine DatAll.cons ?_ ?_ | walk_at "MineItem")))
          k_with "TurnEnd" => ((refine TurnEnd.intro [(_, _)] (by assumption) (tl1 (by assumption)) (off1 (by walk_at "MineLt")) (by walk_at "MineTup")))
          k_with "MineSub" => (first | exact fun _ h => h | assumption | (intro p hp; first | (exact List.Mem.tail _ (by assumption)) | (simp only [List.mem_append, List.mem_cons, List.not_mem_nil, or_false] at hp ⊢; grind)))
          k_with "subscriptTail" => ((k_here; (with_reducible show wpAny _ _ (subscriptTail _ _ (Value.ref _) (Value.int _ _)) _ _ _); k_dflt (refine' item_tupleT ?mwt ?mwa ?mwb ?mwc ?mwd ?_; (case mwt => exact News.isTup (by k_asm) (by walk_at "MineMem")); (case mwa => decide); (case mwb => decide); (case mwc => rfl); (case mwd => rfl); k_whole)))
          k_with "MineRoom" => (first | assumption | ktr_room | (dsimp only [ktrTop, Around.deeper, Around.in1] at *; simp only [recursionLimit] at *; omega))
          k_with "MineUnits" => (first | ktr_units | (have hcL9 := cLine_is; dsimp only [ktrTop, Around.deeper, Around.in1] at *; omega))
          k_with "And" => (((with_reducible show WrapAt _ _ ∧ _); k_dflt (refine ⟨WrapAt.of (by k_asm) (by walk_at "MineMemD"), ?_⟩); (try dsimp only [List.nil_append, List.cons_append])))
          k_with "eval Name" => ((k_here; (with_reducible show wpAny _ _ (eval (Expr.Name _ _) (compEnvC _ _ _ _)) _ _ _); k_dflt (first | refine LCgL.ld_own (by k_asm) (by walk_at "MineMem") (by assumption) (by assumption) ?_ | refine LCgL.ld_global (by k_asm) (by k_asm) (by k_asm) (by k_is) ?_ | refine LCgL.ld_built (by k_asm) (by k_asm) (by k_asm) (by k_is) (by boot_by_name) (by decide) ?_)))
          k_with "MineMemD" => ((repeat' (first | assumption | exact List.mem_cons_self | (refine List.mem_cons_of_mem _ ?_) | (refine List.mem_append.mpr (Or.inl ?_)) | fail "MineMemD")))
          k_with "eval Name" => ((with_reducible show wpAny _ _ (eval (Expr.Name _ _) (envOf _ _ _ _ _)) _ _ _); k_dflt (refine ld (by k_asm) (by first | exact e1 | exact e2 | exact e3 | exact e4 | exact e5) ?_))
          k_steps
          rename_i D8 h8 F8 N8 l8 kF kN Tc kX
          have hfs : fs = figS n base sg w0 := by
            rw [← hfig]
            show _ = (if _ then _ else _)
            rw [if_neg hc]
          refine hret _ [(D8, { cls := .type "tuple", data := .seq #[.str (frontS n sg) q3, .ref S] }), (S, W.listOf vv.toArray c)] _ _ kF (newsIn kN ?_) ?_ ?_
          · intro p hp
            rcases List.mem_append.mp hp with hp | hp
            · exact .tail _ (.tail _ hp)
            · rcases List.mem_cons.mp hp with rfl | hp
              · exact .head _
              · rw [List.mem_singleton.mp hp]
                exact .tail _ (.head _)
          · intro q hq p hp
            rcases List.mem_cons.mp hp with rfl | hp
            · exact Nat.ne_of_gt (ktn_ltOf l8.2 q hq)
            · rw [List.mem_singleton.mp hp]
              exact (offS q hq).symm
          · refine DatIn.tuple (List.mem_append.mpr (.inr (.head _))) (.cons (.str _ _) (.cons ?_ .nil))
            rw [← hfs]
            exact DatIn.list (List.mem_append.mpr (.inr (.tail _ (.head _)))) (datAll_flat DV hfli))

def hx (d : Int) : Nat := (Nat.digitChar d.toNat).toNat
/-! the field that comes out: the sign, noughts, the figures (the empty pieces are those that the law's forms do not ask for) -/
def sgnF (neg : Bool) (sg : List Nat) : List Nat := if neg then [45] else sg
def roomF (w : Int) (sg : List Nat) : Int := w - (sg.length + ([] : List Nat).length + ([] : List Nat).length)
def zerosF (w : Int) (sg fig : List Nat) : List Nat := if fig.isEmpty then [] else List.replicate ((roomF w sg).toNat - fig.length) 48 ++ fig
def fieldS (neg : Bool) (sg : List Nat) (w : Int) (fig : List Nat) : Str :=
  ⟨(List.replicate 0 48 ++ sgnF neg sg ++ [] ++ List.replicate (roomF w (sgnF neg sg) - (zerosF w (sgnF neg sg) fig).length).toNat 48 ++ zerosF w (sgnF neg sg) fig ++ [] ++ List.replicate 0 48).toArray⟩
def digN (base : Nat) (n : Int) : List Nat := (Nat.toDigits base n.natAbs).map fun c => c.toNat
def sgT : List Str := [Str.ofString "", Str.ofString "+", Str.ofString "-", Str.ofString " "]
def sgN : List (List Nat) := [[], [43], [], [32]]
def lets : List Str := [Str.ofString "b", Str.ofString "o", Str.ofString "d", Str.ofString "x"]
def bases : List Int := [2, 8, 10, 16]
def specS (j : Nat) (w : Int) (p : Nat) : Str := sgT.getD j Str.empty ++ Str.ofString "0" ++ Str.ofString (toString w) ++ lets.getD p Str.empty
theorem odl {n : Int} {F : Option Nat → Sem Fin} {C : Sem Fin} (h : n.natAbs.log2 < 1920) (e : F none = C) : (Builtin.overDigitLimit? n >>= F) = C := by
  rw [PyProof.Rows.overDigitLimit_small h]
  exact e
theorem fmt_p0 {j : Nat} {w n : Int} (hj : j < 4) (hw : 1 ≤ w) (hw2 : w ≤ 5) (t u : Tok) :
    Builtin.«int.__format__» ⟨[.int n t, .str (specS j w 0) u], []⟩ = retStr (fieldS (decide (n < 0)) (sgN.getD j []) w (digN (bases.getD 0 0).toNat n)) := by
  have h1 : j = 0 ∨ j = 1 ∨ j = 2 ∨ j = 3 := by omega
  have h3 : w = 1 ∨ w = 2 ∨ w = 3 ∨ w = 4 ∨ w = 5 := by omega
  rcases h1 with rfl | rfl | rfl | rfl <;> rcases h3 with rfl | rfl | rfl | rfl | rfl <;> kernel_rfl
theorem fmt_p1 {j : Nat} {w n : Int} (hj : j < 4) (hw : 1 ≤ w) (hw2 : w ≤ 5) (t u : Tok) :
    Builtin.«int.__format__» ⟨[.int n t, .str (specS j w 1) u], []⟩ = retStr (fieldS (decide (n < 0)) (sgN.getD j []) w (digN (bases.getD 1 0).toNat n)) := by
  have h1 : j = 0 ∨ j = 1 ∨ j = 2 ∨ j = 3 := by omega
  have h3 : w = 1 ∨ w = 2 ∨ w = 3 ∨ w = 4 ∨ w = 5 := by omega
  rcases h1 with rfl | rfl | rfl | rfl <;> rcases h3 with rfl | rfl | rfl | rfl | rfl <;> kernel_rfl
theorem fmt_p3 {j : Nat} {w n : Int} (hj : j < 4) (hw : 1 ≤ w) (hw2 : w ≤ 5) (t u : Tok) :
    Builtin.«int.__format__» ⟨[.int n t, .str (specS j w 3) u], []⟩ = retStr (fieldS (decide (n < 0)) (sgN.getD j []) w (digN (bases.getD 3 0).toNat n)) := by
  have h1 : j = 0 ∨ j = 1 ∨ j = 2 ∨ j = 3 := by omega
  have h3 : w = 1 ∨ w = 2 ∨ w = 3 ∨ w = 4 ∨ w = 5 := by omega
  rcases h1 with rfl | rfl | rfl | rfl <;> rcases h3 with rfl | rfl | rfl | rfl | rfl <;> kernel_rfl
theorem fmt_p2 {j : Nat} {w n : Int} (hj : j < 4) (hw : 1 ≤ w) (hw2 : w ≤ 5) (h : n.natAbs.log2 < 1920) (t u : Tok) :
    Builtin.«int.__format__» ⟨[.int n t, .str (specS j w 2) u], []⟩ = retStr (fieldS (decide (n < 0)) (sgN.getD j []) w (digN (bases.getD 2 0).toNat n)) := by
  have h1 : j = 0 ∨ j = 1 ∨ j = 2 ∨ j = 3 := by omega
  have h3 : w = 1 ∨ w = 2 ∨ w = 3 ∨ w = 4 ∨ w = 5 := by omega
  rcases h1 with rfl | rfl | rfl | rfl <;> rcases h3 with rfl | rfl | rfl | rfl | rfl <;> exact odl h rfl
theorem fmt_all {j p : Nat} {w n : Int} (hj : j < 4) (hp : p < 4) (hw : 1 ≤ w) (hw2 : w ≤ 5) (h : n.natAbs.log2 < 1920) (t u : Tok) :
    Builtin.«int.__format__» ⟨[.int n t, .str (specS j w p) u], []⟩ = retStr (fieldS (decide (n < 0)) (sgN.getD j []) w (digN (bases.getD p 0).toNat n)) := by
  have h2 : p = 0 ∨ p = 1 ∨ p = 3 ∨ p = 2 := by omega
  rcases h2 with rfl | rfl | rfl | rfl
  · exact fmt_p0 hj hw hw2 t u
  · exact fmt_p1 hj hw hw2 t u
  · exact fmt_p3 hj hw hw2 t u
  · exact fmt_p2 hj hw hw2 h t u

theorem digs_core {b : Nat} (hb : 2 ≤ b) {w fl : Int} : ∀ (f k m : Nat) (fs : List Int), m < f → m < 2 ^ (k + 1) → (0 < m ∨ fs = []) →
    ∃ (R : List Int) (k' : Nat), k' + R.length = k + 1 + fs.length ∧ R ≠ [] ∧ figsL b w fl (k + 1) (m : Nat) fs = figsL b w fl k' 0 R ∧
      ∀ cs : List Char, cs.map (fun c => c.toNat) = fs.map hx → (Nat.toDigitsCore b f m cs).map (fun c => c.toNat) = R.map hx := by
  intro f
  induction f with
  | zero => intro k m fs h; omega
  | succ f ih =>
    intro k m fs hf hk hc
    have hcond : (0 : Int) < ((m : Nat) : Int) ∨ fs = [] ∨ fl + (fs.length : Int) < w := hc.elim (fun h => .inl (by omega)) fun h => .inr (.inl h)
    have hstep : figsL b w fl (k + 1) (m : Nat) fs = figsL b w fl k (Int.fdiv (m : Nat) b) (Int.fmod (m : Nat) b :: fs) := by
      show (if _ then _ else _) = _
      rw [if_pos hcond]
    have hd : Int.fdiv (m : Nat) (b : Nat) = ((m / b : Nat) : Int) := by
      rw [Int.fdiv_eq_ediv_of_nonneg _ (by omega)]; rfl
    have hm : Int.fmod (m : Nat) (b : Nat) = ((m % b : Nat) : Int) := by
      rw [Int.fmod_eq_emod_of_nonneg _ (by omega)]; rfl
    rw [hd, hm] at hstep
    have hcs : ∀ cs : List Char, cs.map (fun c => c.toNat) = fs.map hx → (Nat.digitChar (m % b) :: cs).map (fun c => c.toNat) = (((m % b : Nat) : Int) :: fs).map hx := by
      intro cs h
      rw [List.map_cons, List.map_cons, h]
      rfl
    by_cases h0 : m / b = 0
    · refine ⟨((m % b : Nat) : Int) :: fs, k, by simp; omega, by simp, by rw [hstep, h0]; rfl, fun cs h => ?_⟩
      rw [← hcs cs h]
      simp only [Nat.toDigitsCore, h0, if_true]
    · have hmp : 0 < m := by
        rcases Nat.eq_zero_or_pos m with h | h
        · subst h; simp at h0
        · exact h
      have hlt : m / b < m := Nat.div_lt_self hmp hb
      have hk1 : m / b < 2 ^ k := by
        refine Nat.div_lt_of_lt_mul ?_
        rw [Nat.pow_succ] at hk
        exact Nat.lt_of_lt_of_le hk (by rw [Nat.mul_comm]; exact Nat.mul_le_mul_right _ hb)
      obtain ⟨k2, rfl⟩ : ∃ k2, k = k2 + 1 := by
        cases k with
        | zero => exact absurd (Nat.lt_one_iff.mp hk1) h0
        | succ k => exact ⟨k, rfl⟩
      obtain ⟨R, k', h1, h2, h3, h4⟩ := ih k2 (m / b) (((m % b : Nat) : Int) :: fs) (by omega) hk1 (.inl (Nat.pos_of_ne_zero h0))
      refine ⟨R, k', by rw [h1]; simp; omega, h2, by rw [hstep, h3], fun cs h => ?_⟩
      rw [← h4 _ (hcs cs h)]
      simp only [Nat.toDigitsCore, h0, if_false]
theorem pad_core {b : Int} {w fl : Int} : ∀ (k : Nat) (R : List Int), R ≠ [] → w - fl - (R.length : Int) ≤ k → figsL b w fl k 0 R = List.replicate (w - fl - (R.length : Int)).toNat 0 ++ R := by
  intro k
  induction k with
  | zero =>
    intro R _ h
    rw [show (w - fl - (R.length : Int)).toNat = 0 by omega]
    rfl
  | succ k ih =>
    intro R hR h
    show (if _ then _ else _) = _
    by_cases hw : fl + (R.length : Int) < w
    · rw [if_pos (.inr (.inr hw)), show Int.fdiv 0 b = 0 from Int.zero_fdiv _, show Int.fmod 0 b = 0 from Int.zero_fmod _, ih (0 :: R) (by simp) (by simp; omega)]
      rw [show (w - fl - (R.length : Int)).toNat = (w - fl - ((0 :: R : List Int).length : Int)).toNat + 1 by simp; omega, List.replicate_succ', List.append_assoc]
      rfl
    · rw [if_neg (fun hh => hh.elim (fun h1 => absurd h1 (by decide)) fun hh => hh.elim hR hw), show (w - fl - (R.length : Int)).toNat = 0 by omega]
      rfl
def figT (fs : List Int) : Str := ⟨(fs.map hx).toArray⟩
theorem front_cps {n : Int} {j : Nat} (hj : j < 4) : (frontS n (sgT.getD j Str.empty)).cps.toList = if (decide (n < 0)) = true then [45] else sgN.getD j [] := by
  by_cases h : n < 0
  · rw [front_neg h, decide_eq_true h]; rfl
  · unfold frontS
    rw [if_neg h, decide_eq_false h]
    have h1 : j = 0 ∨ j = 1 ∨ j = 2 ∨ j = 3 := by omega
    rcases h1 with rfl | rfl | rfl | rfl <;> decide +kernel
theorem text_eq {n w : Int} {b j : Nat} (hb : 2 ≤ b) (hn : n.natAbs ≤ 4095) (hj : j < 4) (hw2 : w ≤ 5) :
    fieldS (decide (n < 0)) (sgN.getD j []) w (digN b n) = frontS n (sgT.getD j Str.empty) ++ figT (figS n b (sgT.getD j Str.empty) w) := by
  obtain ⟨R, k', h1, h2, h3, h4⟩ := digs_core hb (w := w) (fl := ((frontS n (sgT.getD j Str.empty)).length : Nat)) (n.natAbs + 1) 12 n.natAbs [] (Nat.lt_succ_self _) (by show n.natAbs < 8192; omega) (.inr rfl)
  have hR : 0 < R.length := List.length_pos_iff.mpr h2
  have hd : digN b n = R.map hx := h4 [] rfl
  have hfig : figS n b (sgT.getD j Str.empty) w = List.replicate (w - ((frontS n (sgT.getD j Str.empty)).length : Nat) - (R.length : Int)).toNat 0 ++ R := by
    unfold figS
    rw [h3]
    refine pad_core k' R h2 ?_
    simp only [List.length_nil] at h1
    omega
  refine PySem.Str.ext' (Array.toList_inj.mp ?_)
  rw [PySem.Str.cps_append, Array.toList_append, front_cps hj, hfig, hd]
  have hlen : ((frontS n (sgT.getD j Str.empty)).length : Nat) = (if (decide (n < 0)) = true then [45] else sgN.getD j []).length := by
    rw [← front_cps hj]
    show _ = (frontS n (sgT.getD j Str.empty)).cps.toList.length
    rw [Array.length_toList]
    rfl
  rw [hlen]
  unfold fieldS zerosF roomF sgnF figT
  generalize (if (decide (n < 0)) = true then [45] else sgN.getD j [] : List Nat) = sg
  have hne : (R.map hx).isEmpty = false := by
    cases R with
    | nil => exact absurd rfl h2
    | cons d R => rfl
  simp only [hne, List.length_nil, Bool.false_eq_true, if_false, List.length_append, List.length_replicate, List.length_map, List.replicate_zero, List.nil_append, List.append_nil, List.map_append, List.map_replicate]
  rw [show (w - ((sg.length : Int) + ((0 : Nat) : Int) + ((0 : Nat) : Int)) - ((((w - ((sg.length : Int) + ((0 : Nat) : Int) + ((0 : Nat) : Int))).toNat - R.length + R.length : Nat)) : Int)).toNat = 0 by omega,
    show (w - ((sg.length : Int) + ((0 : Nat) : Int) + ((0 : Nat) : Int))).toNat - R.length = (w - (sg.length : Int) - (R.length : Int)).toNat by omega]
  simp [show hx 0 = 48 from by decide +kernel]
theorem fig_len {n w : Int} {b j : Nat} (hb : 2 ≤ b) (hn : n.natAbs ≤ 4095) (hw2 : w ≤ 5) : (figS n b (sgT.getD j Str.empty) w).length ≤ 13 := by
  obtain ⟨R, k', h1, h2, h3, _⟩ := digs_core hb (w := w) (fl := ((frontS n (sgT.getD j Str.empty)).length : Nat)) (n.natAbs + 1) 12 n.natAbs [] (Nat.lt_succ_self _) (by show n.natAbs < 8192; omega) (.inr rfl)
  simp only [List.length_nil] at h1
  unfold figS
  rw [h3, pad_core k' R h2 (by omega), List.length_append, List.length_replicate]
  omega
theorem text_len {n w : Int} {b j : Nat} (hb : 2 ≤ b) (hn : n.natAbs ≤ 4095) (hj : j < 4) (hw2 : w ≤ 5) : (fieldS (decide (n < 0)) (sgN.getD j []) w (digN b n)).length ≤ 20 := by
  rw [text_eq hb hn hj hw2, Str.length_append]
  have h1 := fig_len (j := j) hb hn hw2
  have h2 : (frontS n (sgT.getD j Str.empty)).length ≤ 1 := by
    refine front_le ?_
    have h1 : j = 0 ∨ j = 1 ∨ j = 2 ∨ j = 3 := by omega
    rcases h1 with rfl | rfl | rfl | rfl <;> decide +kernel
  have h3 : (figT (figS n b (sgT.getD j Str.empty) w)).length = (figS n b (sgT.getD j Str.empty) w).length := by
    show ((List.map hx _).toArray).size = _
    simp
  omega
theorem number_le {x b : Int} (hb : 2 ≤ b) (hb2 : b ≤ 16) : (numberS x b).natAbs ≤ 4095 := by
  have p1 := place_le (x := x) (p := 16) hb hb2 (Int.le_refl 0) (Int.le_refl 0)
  have p2 := place_le (x := x) (p := 4) hb hb2 p1.1 p1.2
  have p3 := place_le (x := x) (p := 1) hb hb2 p2.1 p2.2
  unfold numberS absS
  split <;> omega

theorem entry_format : entryFor table "format" = some Builtin.«format» := entryFor_of_fast (by kernel_rfl)
theorem kind_format : builtinKind "format" = none := by decide +kernel
theorem plain_format : plainId "format" = true := by decide +kernel
theorem args_format2 (a b : Value) : argsOk "format" ⟨[a, b], []⟩ := by unfold argsOk; kernel_rfl
section
variable {prog : Program} {w : World} {A : Around} {E : Value → Shared → Prop} {s : Shared}
theorem format_int {n : Int} {x y : Str} {t u : Tok} {Q : Value → Shared → Prop} (hx : x.length ≠ 0) (e : Builtin.«int.__format__» ⟨[.int n t, .str x u], []⟩ = retStr y) (hy : y.length ≤ sizeLine) (h : ∀ t' k, Q (.str y t') { s with toks := k }) :
    wpAny (model prog w) A (call (.builtin "format") [.int n t, .str x u]) Q E s := by
  refine Calls.call_function_entry kind_format plain_format entry_format (args_format2 _ _) ?_
  unfold Builtin.«format»
  refine wpAny_bind (m := someArgs "format" 1 2 _) (wpAny_of_eq (a := [Value.int n t, Value.str x u]) (by first | rfl | kernel_rfl!) ?_)
  dsimp only
  have hT := typeIs_int s n t
  repeat (any_goals (first | assumption | ((with_reducible show wpAny _ _ (callSpecial? _ _ _) _ _ _); dsimp only; refine wpAny_callSpecial?_slot (name := Str.ofString "__format__") hT PySem.F.slot_int_format ?_; refine wpAny_call_entry PySem.F.slot_int_format hT PySem.F.entry_int_format ?_ (PySem.F.args_int_format_2 _ _); show wpAny _ _ (Builtin.«int.__format__» ⟨[.int n t, .str x u], []⟩) _ _ _; rw [e]; refine wpAny_bind (wpAny_mkStr ?_ hy); refine wpAny_pure ⟨_, rfl, ?_⟩; dsimp only) | ((with_reducible show wpAny _ _ (isInstance _ _) _ _ _); refine wpAny_isInstance (T := "str") (b := true) (typeIs_str _ y _) (by kernel_rfl) ?_; rw [if_pos rfl]; exact wpAny_pure ⟨_, rfl, h _ _⟩) | wp_step))
end
theorem ff_tel {w : World} {mean : ExcName → Option Value} {mg mb : Str → Option Value} {n : Int} {x y : Str} (hx : x.length ≠ 0) (e : ∀ t u, Builtin.«int.__format__» ⟨[.int n t, .str x u], []⟩ = retStr y) (hy : y.length ≤ sizeLine) :
    Tel PySem.Challenge.rw_ij0164_02.row.prog w (hd.heap_39 w.params) hd.view_39 (looseW hd.view_39 [Str.ofString "filterfalse"]) mean mg mb 78 30 (fun L vs => ∃ z t u, vs = [.ref z, .int n t, .str x u]) (fun L r => DatIn L r (.str y)) := by
  k_fill
  w_top off
  unfold Tel
  intro dp un gd cn cs a ccd cl outer A₀ base h₀ L m news sub s vs Q E B F X N T hk hs hR hd hu hret
  obtain ⟨z, t, u, rfl⟩ := hR
  k_with_none
  k_with "MineMem" => (first | (with_reducible assumption) | (with_reducible exact List.mem_cons_self) | ((with_reducible refine List.mem_append.mpr (Or.inl ?_)); walk_at "MineMem") | ((with_reducible refine List.mem_append.mpr (Or.inr ?_)); walk_at "MineMem") | ((with_reducible refine List.mem_cons_of_mem _ ?_); walk_at "MineMem"))
  k_with "eval ListComp" => ((k_here; k_dflt (refine LCg.ListComp_U (F₀ := by k_asm) (by with_unfolding_all rfl) (by decide) (by rfl) (by decide) (by rfl) ?_)))
  k_with "MineItem" => (first | exact DatIn.none | exact DatIn.bool _ | exact DatIn.int _ _ | exact DatIn.str _ _ | assumption | (refine DatIn.mono ?_ (by assumption); (intro p hp; (try simp only [List.mem_append, List.mem_cons] at hp ⊢); grind)))
  k_with "MineLt" => (first | assumption | exact allLt_of (by assumption) | tbn_find | (simp only [AllLt, and_true]; tbn_conj))
  k_with "MineTup" => ((refine DatIn.tuple (List.mem_append.mpr (Or.inr (List.Mem.head _))) ?_; repeat' (first | exact DatAll.nil | refine DatAll.cons ?_ ?_ | walk_at "MineItem")))
  k_with "TurnEnd" => ((refine TurnEnd.intro [(_, _)] (by assumption) (tl1 (by assumption)) (off1 (by walk_at "MineLt")) (by walk_at "MineTup")))
  k_with "MineSub" => (first | exact fun _ h => h | assumption | (intro p hp; first | (exact List.Mem.tail _ (by assumption)) | (simp only [List.mem_append, List.mem_cons, List.not_mem_nil, or_false] at hp ⊢; grind)))
  k_with "subscriptTail" => ((k_here; (with_reducible show wpAny _ _ (subscriptTail _ _ (Value.ref _) (Value.int _ _)) _ _ _); k_dflt (refine' item_tupleT ?mwt ?mwa ?mwb ?mwc ?mwd ?_; (case mwt => exact News.isTup (by k_asm) (by walk_at "MineMem")); (case mwa => decide); (case mwb => decide); (case mwc => rfl); (case mwd => rfl); k_whole)))
  k_with "MineRoom" => (first | assumption | ktr_room | (dsimp only [ktrTop, Around.deeper, Around.in1] at *; simp only [recursionLimit] at *; omega))
  k_with "MineUnits" => (first | ktr_units | (have hcL9 := cLine_is; dsimp only [ktrTop, Around.deeper, Around.in1] at *; omega))
  k_with "And" => (((with_reducible show WrapAt _ _ ∧ _); k_dflt (refine ⟨WrapAt.of (by k_asm) (by walk_at "MineMemD"), ?_⟩); (try dsimp only [List.nil_append, List.cons_append])))
  k_with "eval Name" => ((k_here; (with_reducible show wpAny _ _ (eval (Expr.Name _ _) (compEnvC _ _ _ _)) _ _ _); k_dflt (first | refine LCgL.ld_own (by k_asm) (by walk_at "MineMem") (by assumption) (by assumption) ?_ | refine LCgL.ld_global (by k_asm) (by k_asm) (by k_asm) (by k_is) ?_ | refine LCgL.ld_built (by k_asm) (by k_asm) (by k_asm) (by k_is) (by boot_by_name) (by decide) ?_)))
  k_with "MineMemD" => ((repeat' (first | assumption | exact List.mem_cons_self | (refine List.mem_cons_of_mem _ ?_) | (refine List.mem_append.mpr (Or.inl ?_)) | fail "MineMemD")))
  k_with "call builtin:format" => (refine format_int hx (e _ _) hy ?_; intro t9 k9)
  refine wpAny_call ?_
  k_dflt ktr_enter
  k_steps
  exact hret _ [] _ _ (by assumption) (tl0 (by assumption)) off0 (DatIn.str _ _)

def plS (z : Int) : Nat := (Int.fmod z 4).toNat
def bsS (z : Int) : Int := bases.getD (plS z) 0
def sjS (z : Int) : Nat := (Int.fmod (Int.fdiv z 4) 4).toNat
def sgS (z : Int) : Str := sgT.getD (sjS z) Str.empty
def wdS (z : Int) : Int := Int.fmod (Int.fdiv z 16) 5 + 1
def numsS (z : Int) (ns : List Int) : List Int := ns.map (fun x => numberS x (bsS z)) ++ [1]
def textS (z n : Int) : Str := fieldS (decide (n < 0)) (sgN.getD (sjS z) []) (wdS z) (digN (bsS z).toNat n)
def numlS (z n : Int) : Dat := numlD n (bsS z) (sgS z) (wdS z)
def sideD (z : Int) (ns : List Int) : Dat := .tuple [.list ((numsS z ns).map fun n => .str (textS z n)), .list ((numsS z ns).map (numlS z))]
theorem bs_bounds (z : Int) : 2 ≤ bsS z ∧ bsS z ≤ 16 := by
  have h1 := Int.fmod_nonneg_of_pos z (by decide : (0 : Int) < 4)
  have h2 := Int.fmod_lt_of_pos z (by decide : (0 : Int) < 4)
  unfold bsS plS
  generalize Int.fmod z 4 = k at *
  have hk : k = 0 ∨ k = 1 ∨ k = 2 ∨ k = 3 := by omega
  rcases hk with rfl | rfl | rfl | rfl <;> decide
section
variable {prog : Program} {w : World} {A : Around} {E : Value → Shared → Prop} {s : Shared}
theorem sg_pick (z : Int) (t0 t1 t2 t3 : Tok) : ∃ (jj : Nat) (tt : Tok), seqIndex? (Int.fmod (Int.fdiv z 4) 4) 4 = some jj ∧ [Value.str (Str.ofString "") t0, .str (Str.ofString "+") t1, .str (Str.ofString "-") t2, .str (Str.ofString " ") t3][jj]? = some (.str (sgS z) tt) := by
  have h1 := Int.fmod_nonneg_of_pos (Int.fdiv z 4) (by decide : (0 : Int) < 4)
  have h2 := Int.fmod_lt_of_pos (Int.fdiv z 4) (by decide : (0 : Int) < 4)
  unfold sgS sjS
  generalize Int.fmod (Int.fdiv z 4) 4 = k at *
  have hk : k = 0 ∨ k = 1 ∨ k = 2 ∨ k = 3 := by omega
  rcases hk with rfl | rfl | rfl | rfl <;> exact ⟨_, _, rfl, rfl⟩
theorem item_sg {value slice : Expr} {t : Addr} {t0 t1 t2 t3 u : Tok} {z : Int} {Q : Value → Shared → Prop} (ht : IsTup s.heap t #[.str (Str.ofString "") t0, .str (Str.ofString "+") t1, .str (Str.ofString "-") t2, .str (Str.ofString " ") t3])
    (h : ∀ tt, Q (.str (sgS z) tt) s) (hs : subscripted slice false (.ref t) (.int (Int.fmod (Int.fdiv z 4) 4) u) = operate [.ref t, .int (Int.fmod (Int.fdiv z 4) 4) u] (getItem (.ref t) (.int (Int.fmod (Int.fdiv z 4) 4) u)) := by with_unfolding_all rfl) :
    wpAny (model prog w) A (subscriptTail value slice (.ref t) (.int (Int.fmod (Int.fdiv z 4) 4) u)) Q E s := by
  obtain ⟨jj, tt, hj, hx⟩ := sg_pick z t0 t1 t2 t3
  have h1 := Int.fmod_nonneg_of_pos (Int.fdiv z 4) (by decide : (0 : Int) < 4)
  have h2 := Int.fmod_lt_of_pos (Int.fdiv z 4) (by decide : (0 : Int) < 4)
  exact item_tupleT (l := [.str (Str.ofString "") t0, .str (Str.ofString "+") t1, .str (Str.ofString "-") t2, .str (Str.ofString " ") t3]) ht (by omega) (by omega) hj hx (h tt) hs
theorem let_pick (z : Int) : Txt.item (Str.ofString "bodx") (Int.fmod z 4) = lets.getD (plS z) Str.empty := by
  have h1 := Int.fmod_nonneg_of_pos z (by decide : (0 : Int) < 4)
  have h2 := Int.fmod_lt_of_pos z (by decide : (0 : Int) < 4)
  unfold plS
  generalize Int.fmod z 4 = k at *
  have hk : k = 0 ∨ k = 1 ∨ k = 2 ∨ k = 3 := by omega
  rcases hk with rfl | rfl | rfl | rfl <;> decide +kernel
theorem item_let {value slice : Expr} {t u : Tok} {z : Int} {Q : Value → Shared → Prop} (h : ∀ tt k, Q (.str (lets.getD (plS z) Str.empty) tt) { s with toks := k })
    (hs : subscripted slice false (.str (Str.ofString "bodx") t) (.int (Int.fmod z 4) u) = operate [.str (Str.ofString "bodx") t, .int (Int.fmod z 4) u] (getItem (.str (Str.ofString "bodx") t) (.int (Int.fmod z 4) u)) := by with_unfolding_all rfl)
    (ht : ∀ r, letTemporaryGo value (.str (Str.ofString "bodx") t) r = pure () := by intro _; with_unfolding_all rfl) :
    wpAny (model prog w) A (subscriptTail value slice (.str (Str.ofString "bodx") t) (.int (Int.fmod z 4) u)) Q E s := by
  have h1 := Int.fmod_nonneg_of_pos z (by decide : (0 : Int) < 4)
  have h2 := Int.fmod_lt_of_pos z (by decide : (0 : Int) < 4)
  refine KXi.item (n := 4) (by decide +kernel) (by omega) (by omega) (by decide) (fun _ => ?_) hs ht
  rw [let_pick]
  exact h _ _
end
theorem wd_bounds (z : Int) : 1 ≤ wdS z ∧ wdS z ≤ 5 := by
  have h1 := Int.fmod_nonneg_of_pos (Int.fdiv z 16) (by decide : (0 : Int) < 5)
  have h2 := Int.fmod_lt_of_pos (Int.fdiv z 16) (by decide : (0 : Int) < 5)
  unfold wdS
  omega
theorem sj_lt (z : Int) : sjS z < 4 := by
  have h1 := Int.fmod_nonneg_of_pos (Int.fdiv z 4) (by decide : (0 : Int) < 4)
  have h2 := Int.fmod_lt_of_pos (Int.fdiv z 4) (by decide : (0 : Int) < 4)
  unfold sjS
  omega
theorem pl_lt (z : Int) : plS z < 4 := by
  have h1 := Int.fmod_nonneg_of_pos z (by decide : (0 : Int) < 4)
  have h2 := Int.fmod_lt_of_pos z (by decide : (0 : Int) < 4)
  unfold plS
  omega
theorem spec_lens (z : Int) : (sgS z).length ≤ 1 ∧ (Str.ofString (toString (wdS z))).length = 1 ∧ (lets.getD (plS z) Str.empty).length = 1 ∧ (Str.ofString "0").length = 1 := by
  have h1 := wd_bounds z
  have h2 := sj_lt z
  have h3 := pl_lt z
  unfold sgS
  generalize wdS z = k at *
  generalize sjS z = j at *
  generalize plS z = p at *
  refine ⟨?_, ?_, ?_, by decide +kernel⟩
  · have hk : j = 0 ∨ j = 1 ∨ j = 2 ∨ j = 3 := by omega
    rcases hk with rfl | rfl | rfl | rfl <;> decide +kernel
  · have hk : k = 1 ∨ k = 2 ∨ k = 3 ∨ k = 4 ∨ k = 5 := by omega
    rcases hk with rfl | rfl | rfl | rfl | rfl <;> decide +kernel
  · have hk : p = 0 ∨ p = 1 ∨ p = 2 ∨ p = 3 := by omega
    rcases hk with rfl | rfl | rfl | rfl <;> decide +kernel
def specZ (z : Int) : Str := specS (sjS z) (wdS z) (plS z)
theorem nums_le {z n : Int} {ns : List Int} (h : n ∈ numsS z ns) : n.natAbs ≤ 4095 := by
  unfold numsS at h
  rcases List.mem_append.mp h with h | h
  · obtain ⟨x, _, rfl⟩ := List.mem_map.mp h
    exact number_le (bs_bounds z).1 (bs_bounds z).2
  · rw [List.mem_singleton.mp h]; decide
theorem bs_nat (z : Int) : ((bsS z).toNat : Int) = bsS z := by have h := bs_bounds z; omega
theorem log2_4095 {m : Nat} (h : m ≤ 4095) : m.log2 < 1920 := by
  by_cases h0 : m = 0
  · subst h0; decide
  · refine (Nat.log2_lt h0).mpr (Nat.lt_of_lt_of_le (show m < 2 ^ 12 by omega) (Nat.pow_le_pow_right (by decide) (by decide)))
theorem fmt_spec {z n : Int} (hn : n.natAbs ≤ 4095) (t u : Tok) : Builtin.«int.__format__» ⟨[.int n t, .str (specZ z) u], []⟩ = retStr (textS z n) :=
  fmt_all (sj_lt z) (pl_lt z) (wd_bounds z).1 (wd_bounds z).2 (log2_4095 hn) t u
theorem texts_len {z n : Int} (hn : n.natAbs ≤ 4095) : (textS z n).length ≤ sizeLine := by
  have h := text_len (n := n) (w := wdS z) (b := (bsS z).toNat) (j := sjS z) (by have := bs_bounds z; omega) hn (sj_lt z) (wd_bounds z).2
  rw [sizeLine_eq]
  unfold textS
  omega
theorem spec_ne (z : Int) : (specZ z).length ≠ 0 := by
  have h := spec_lens z
  unfold specZ specS
  simp only [Str.length_append]
  omega
theorem side_tel {w : World} {mean : ExcName → Option Value} {mg mb : Str → Option Value} (z : Int) (ns : List Int) (hlen : ns.length ≤ 9) : Tel PySem.Challenge.rw_ij0164_02.row.prog w (hd.heap_39 w.params) hd.view_39 (looseW hd.view_39 [Str.ofString "filterfalse"]) mean mg mb 169 200 (fun L vs => DatAll L vs [.int z, .list (ns.map Dat.int)]) (fun L r => DatIn L r (sideD z ns)) := by
  k_fill
  w_top off
  unfold Tel
  intro dp un gd cn cs' a ccd cl outer A₀ base h₀ L m news sub s vs Q E B F X N T hk hs hR hd hu hret
  obtain ⟨_, _, rfl, h1, h2⟩ := inv2 hR
  obtain ⟨tz, rfl⟩ := invI h1
  obtain ⟨aa, vv, nn, rfl, hm, hD⟩ := invL h2
  have hm' := hs _ hm
  k_with_none
  k_with "MineMem" => (first | (with_reducible assumption) | (with_reducible exact List.mem_cons_self) | ((with_reducible refine List.mem_append.mpr (Or.inl ?_)); walk_at "MineMem") | ((with_reducible refine List.mem_append.mpr (Or.inr ?_)); walk_at "MineMem") | ((with_reducible refine List.mem_cons_of_mem _ ?_); walk_at "MineMem"))
  k_with "eval ListComp" => ((k_here; k_dflt (refine LCg.ListComp_U (F₀ := by k_asm) (by with_unfolding_all rfl) (by decide) (by rfl) (by decide) (by rfl) ?_)))
  k_with "MineItem" => (first | exact DatIn.none | exact DatIn.bool _ | exact DatIn.int _ _ | exact DatIn.str _ _ | assumption | (refine DatIn.mono ?_ (by assumption); (intro p hp; (try simp only [List.mem_append, List.mem_cons] at hp ⊢); grind)))
  k_with "MineLt" => (first | assumption | exact allLt_of (by assumption) | tbn_find | (simp only [AllLt, and_true]; tbn_conj))
  k_with "MineTup" => ((refine DatIn.tuple (List.mem_append.mpr (Or.inr (List.Mem.head _))) ?_; repeat' (first | exact DatAll.nil | refine DatAll.cons ?_ ?_ | walk_at "MineItem")))
  k_with "TurnEnd" => ((refine TurnEnd.intro [(_, _)] (by assumption) (tl1 (by assumption)) (off1 (by walk_at "MineLt")) (by walk_at "MineTup")))
  k_with "MineSub" => (first | exact fun _ h => h | assumption | (intro p hp; first | (exact List.Mem.tail _ (by assumption)) | (simp only [List.mem_append, List.mem_cons, List.not_mem_nil, or_false] at hp ⊢; grind)))
  k_with "subscriptTail" => ((k_here; (with_reducible show wpAny _ _ (subscriptTail _ _ (Value.ref _) (Value.int _ _)) _ _ _); k_dflt (refine' item_tupleT ?mwt ?mwa ?mwb ?mwc ?mwd ?_; (case mwt => exact News.isTup (by k_asm) (by walk_at "MineMem")); (case mwa => decide); (case mwb => decide); (case mwc => rfl); (case mwd => rfl); k_whole)))
  k_with "MineRoom" => (first | assumption | ktr_room | (dsimp only [ktrTop, Around.deeper, Around.in1] at *; simp only [recursionLimit] at *; omega))
  k_with "MineUnits" => (first | ktr_units | (have hcL9 := cLine_is; dsimp only [ktrTop, Around.deeper, Around.in1] at *; omega))
  k_with "And" => (((with_reducible show WrapAt _ _ ∧ _); k_dflt (refine ⟨WrapAt.of (by k_asm) (by walk_at "MineMemD"), ?_⟩); (try dsimp only [List.nil_append, List.cons_append])))
  k_with "eval Name" => ((k_here; (with_reducible show wpAny _ _ (eval (Expr.Name _ _) (compEnvC _ _ _ _)) _ _ _); k_dflt (first | refine LCgL.ld_own (by k_asm) (by walk_at "MineMem") (by assumption) (by assumption) ?_ | refine LCgL.ld_global (by k_asm) (by k_asm) (by k_asm) (by k_is) ?_ | refine LCgL.ld_built (by k_asm) (by k_asm) (by k_asm) (by k_is) (by boot_by_name) (by decide) ?_)))
  k_with "MineMemD" => ((repeat' (first | assumption | exact List.mem_cons_self | (refine List.mem_cons_of_mem _ ?_) | (refine List.mem_append.mpr (Or.inl ?_)) | fail "MineMemD")))
  k_with "storeName" => (refine Hid.out ?_)
  refine wpAny_call ?_
  k_dflt (refine' code_defC ?mc1 ?mc2 ?mc3 ?mc4 ?mc5 ?mcA ?mcF ?mcK ?mc6 ?mc7 ?mc8 ?mc9 ?mcB ?mcD ?_ ?mcc2 ?mcc3 ?mcc4; (case mcA => first | exact rfl | assumption); (case mcF => exact rfl); (case mcK => first | exact rfl | assumption); (case mc1 => k_asm); (case mc2 => k_asm); (case mc3 => k_asm); (case mc4 => k_asm); (case mc5 => k_asm); (case mc6 => k_is); (case mc7 => k_is); (case mc8 => walk_at "MineRoom"); (case mc9 => first | exact BindsTo.of_eq rfl | exact binds_K (by k_in) rfl (by k_is) rfl rfl rfl); (case mcB => exact rfl); (case mcD => decide +kernel); (case mcc2 => exact rfl); (case mcc3 => exact rfl); (case mcc4 => exact rfl); k_whole; intro _ _ _ _ _ _ _ N9 Y9 _ _ _ l1; (try k_lt l1); k_cells Y9; (try simp only [List.cons_append, List.nil_append] at N9); (try dsimp only); (try k_fold))
  k_steps
  unfold Hid
  rename_i g1 L1 h5 tk5 FG1 F1 B1 X1 T1 oM oW oS oB oP dM dW dS dB dP
  refine store_cellN ((L1 + 1 + 1 + 1 + 1 + 1, oM) :: (L1 + 1 + 1 + 1 + 1, oW) :: (L1 + 1 + 1 + 1, oS) :: (L1 + 1 + 1, oB) :: news) F1 N9 (by rfl) (by walk_at "MineMem") dP ?_ ?_ ?_ (by rfl) (by rfl)
  · intro p hp
    simp only [List.mem_cons] at hp ⊢
    grind
  · intro p hp
    simp only [List.mem_cons] at hp
    rcases hp with rfl | rfl | rfl | rfl | hp
    · exact Nat.ne_of_gt (by omega)
    · exact Nat.ne_of_gt (by omega)
    · exact Nat.ne_of_gt (by omega)
    · exact Nat.ne_of_gt (by omega)
    · exact Nat.ne_of_lt (Nat.lt_of_lt_of_le (l1 p hp) (by omega))
  clear F1 N9 dP
  intro hP oP2 FP NP dP2
  replace dP2 : ∃ t, oP2.data = .cell (some (.int (Int.fmod z 4) t)) := ⟨_, dP2⟩
  obtain ⟨tP, dP2⟩ := dP2
  dsimp only
  k_with_none
  k_with "MineMem" => (first | (with_reducible assumption) | (with_reducible exact List.mem_cons_self) | ((with_reducible refine List.mem_append.mpr (Or.inl ?_)); walk_at "MineMem") | ((with_reducible refine List.mem_append.mpr (Or.inr ?_)); walk_at "MineMem") | ((with_reducible refine List.mem_cons_of_mem _ ?_); walk_at "MineMem"))
  k_with "eval ListComp" => ((k_here; k_dflt (refine LCg.ListComp_U (F₀ := by k_asm) (by with_unfolding_all rfl) (by decide) (by rfl) (by decide) (by rfl) ?_)))
  k_with "MineItem" => (first | exact DatIn.none | exact DatIn.bool _ | exact DatIn.int _ _ | exact DatIn.str _ _ | assumption | (refine DatIn.mono ?_ (by assumption); (intro p hp; (try simp only [List.mem_append, List.mem_cons] at hp ⊢); grind)))
  k_with "MineLt" => (first | assumption | exact allLt_of (by assumption) | tbn_find | (simp only [AllLt, and_true]; tbn_conj))
  k_with "MineTup" => ((refine DatIn.tuple (List.mem_append.mpr (Or.inr (List.Mem.head _))) ?_; repeat' (first | exact DatAll.nil | refine DatAll.cons ?_ ?_ | walk_at "MineItem")))
  k_with "TurnEnd" => ((refine TurnEnd.intro [(_, _)] (by assumption) (tl1 (by assumption)) (off1 (by walk_at "MineLt")) (by walk_at "MineTup")))
  k_with "MineSub" => (first | exact fun _ h => h | assumption | (intro p hp; first | (exact List.Mem.tail _ (by assumption)) | (simp only [List.mem_append, List.mem_cons, List.not_mem_nil, or_false] at hp ⊢; grind)))
  k_with "subscriptTail" => ((k_here; (with_reducible show wpAny _ _ (subscriptTail _ _ (Value.ref _) (Value.int _ _)) _ _ _); k_dflt (refine' item_tupleT ?mwt ?mwa ?mwb ?mwc ?mwd ?_; (case mwt => exact News.isTup (by k_asm) (by walk_at "MineMem")); (case mwa => decide); (case mwb => decide); (case mwc => rfl); (case mwd => rfl); k_whole)))
  k_with "MineRoom" => (first | assumption | ktr_room | (dsimp only [ktrTop, Around.deeper, Around.in1] at *; simp only [recursionLimit] at *; omega))
  k_with "MineUnits" => (first | ktr_units | (have hcL9 := cLine_is; dsimp only [ktrTop, Around.deeper, Around.in1] at *; omega))
  k_with "And" => (((with_reducible show WrapAt _ _ ∧ _); k_dflt (refine ⟨WrapAt.of (by k_asm) (by walk_at "MineMemD"), ?_⟩); (try dsimp only [List.nil_append, List.cons_append])))
  k_with "eval Name" => ((k_here; (with_reducible show wpAny _ _ (eval (Expr.Name _ _) (compEnvC _ _ _ _)) _ _ _); k_dflt (first | refine LCgL.ld_own (by k_asm) (by walk_at "MineMem") (by assumption) (by assumption) ?_ | refine LCgL.ld_global (by k_asm) (by k_asm) (by k_asm) (by k_is) ?_ | refine LCgL.ld_built (by k_asm) (by k_asm) (by k_asm) (by k_is) (by boot_by_name) (by decide) ?_)))
  k_with "MineMemD" => ((repeat' (first | assumption | exact List.mem_cons_self | (refine List.mem_cons_of_mem _ ?_) | (refine List.mem_append.mpr (Or.inl ?_)) | fail "MineMemD")))
  k_with "storeName" => (refine Hid.out ?_)
  k_with "subscriptTail" => ((with_reducible show wpAny _ _ (subscriptTail _ _ (Value.ref _) (Value.int (Int.fmod (Int.fdiv _ 4) 4) _)) _ _ _); k_dflt (refine item_sg (News.isTup (by k_asm) (List.Mem.head _)) ?_ (by with_unfolding_all rfl)); intro tsg)
  k_with "eval Name" => ((with_reducible show wpAny _ _ (eval (Expr.Name _ _) (envOfC _ _ _ _ _)) _ _ _); k_dflt (first | refine nameX_C (by k_asm) (by rfl) (by walk_at "MineMem") dP2 ?_ (by rfl) (by rfl)))
  k_steps
  unfold Hid
  rename Fr _ _ _ _ => F9
  rename News _ _ _ _ => N9
  refine store_cellN ((L1 + 1 + 1 + 1 + 1 + 1, oM) :: (L1 + 1 + 1 + 1 + 1, oW) :: (L1 + 1 + 1 + 1, oS) :: (L1 + 1, oP2) :: news) F9 N9 (by rfl) (by walk_at "MineMem") dB ?_ ?_ ?_ (by rfl) (by rfl)
  · intro p hp
    simp only [List.mem_cons] at hp ⊢
    grind
  · intro p hp
    simp only [List.mem_cons] at hp
    rcases hp with rfl | rfl | rfl | rfl | hp
    · exact Nat.ne_of_gt (by omega)
    · exact Nat.ne_of_gt (by omega)
    · exact Nat.ne_of_gt (by omega)
    · exact Nat.ne_of_lt (by omega)
    · exact Nat.ne_of_lt (Nat.lt_of_lt_of_le (l1 p hp) (by omega))
  clear F9 N9 dB
  intro hB oB2 FB NB dB2
  replace dB2 : ∃ t, oB2.data = .cell (some (.int (bsS z) t)) := ⟨_, dB2⟩
  obtain ⟨tB, dB2⟩ := dB2
  dsimp only
  k_with_none
  k_with "MineMem" => (first | (with_reducible assumption) | (with_reducible exact List.mem_cons_self) | ((with_reducible refine List.mem_append.mpr (Or.inl ?_)); walk_at "MineMem") | ((with_reducible refine List.mem_append.mpr (Or.inr ?_)); walk_at "MineMem") | ((with_reducible refine List.mem_cons_of_mem _ ?_); walk_at "MineMem"))
  k_with "eval ListComp" => ((k_here; k_dflt (refine LCg.ListComp_U (F₀ := by k_asm) (by with_unfolding_all rfl) (by decide) (by rfl) (by decide) (by rfl) ?_)))
  k_with "MineItem" => (first | exact DatIn.none | exact DatIn.bool _ | exact DatIn.int _ _ | exact DatIn.str _ _ | assumption | (refine DatIn.mono ?_ (by assumption); (intro p hp; (try simp only [List.mem_append, List.mem_cons] at hp ⊢); grind)))
  k_with "MineLt" => (first | assumption | exact allLt_of (by assumption) | tbn_find | (simp only [AllLt, and_true]; tbn_conj))
  k_with "MineTup" => ((refine DatIn.tuple (List.mem_append.mpr (Or.inr (List.Mem.head _))) ?_; repeat' (first | exact DatAll.nil | refine DatAll.cons ?_ ?_ | walk_at "MineItem")))
  k_with "TurnEnd" => ((refine TurnEnd.intro [(_, _)] (by assumption) (tl1 (by assumption)) (off1 (by walk_at "MineLt")) (by walk_at "MineTup")))
  k_with "MineSub" => (first | exact fun _ h => h | assumption | (intro p hp; first | (exact List.Mem.tail _ (by assumption)) | (simp only [List.mem_append, List.mem_cons, List.not_mem_nil, or_false] at hp ⊢; grind)))
  k_with "subscriptTail" => ((k_here; (with_reducible show wpAny _ _ (subscriptTail _ _ (Value.ref _) (Value.int _ _)) _ _ _); k_dflt (refine' item_tupleT ?mwt ?mwa ?mwb ?mwc ?mwd ?_; (case mwt => exact News.isTup (by k_asm) (by walk_at "MineMem")); (case mwa => decide); (case mwb => decide); (case mwc => rfl); (case mwd => rfl); k_whole)))
  k_with "MineRoom" => (first | assumption | ktr_room | (dsimp only [ktrTop, Around.deeper, Around.in1] at *; simp only [recursionLimit] at *; omega))
  k_with "MineUnits" => (first | ktr_units | (have hcL9 := cLine_is; dsimp only [ktrTop, Around.deeper, Around.in1] at *; omega))
  k_with "And" => (((with_reducible show WrapAt _ _ ∧ _); k_dflt (refine ⟨WrapAt.of (by k_asm) (by walk_at "MineMemD"), ?_⟩); (try dsimp only [List.nil_append, List.cons_append])))
  k_with "eval Name" => ((k_here; (with_reducible show wpAny _ _ (eval (Expr.Name _ _) (compEnvC _ _ _ _)) _ _ _); k_dflt (first | refine LCgL.ld_own (by k_asm) (by walk_at "MineMem") (by assumption) (by assumption) ?_ | refine LCgL.ld_global (by k_asm) (by k_asm) (by k_asm) (by k_is) ?_ | refine LCgL.ld_built (by k_asm) (by k_asm) (by k_asm) (by k_is) (by boot_by_name) (by decide) ?_)))
  k_with "MineMemD" => ((repeat' (first | assumption | exact List.mem_cons_self | (refine List.mem_cons_of_mem _ ?_) | (refine List.mem_append.mpr (Or.inl ?_)) | fail "MineMemD")))
  k_with "storeName" => (refine Hid.out ?_)
  k_with "subscriptTail" => ((with_reducible show wpAny _ _ (subscriptTail _ _ (Value.ref _) (Value.int (Int.fmod (Int.fdiv _ 4) 4) _)) _ _ _); k_dflt (refine item_sg (News.isTup (by k_asm) (List.Mem.head _)) ?_ (by with_unfolding_all rfl)); intro tsg)
  k_with "eval Name" => ((with_reducible show wpAny _ _ (eval (Expr.Name _ _) (envOfC _ _ _ _ _)) _ _ _); k_dflt (first | refine nameX_C (by k_asm) (by rfl) (by walk_at "MineMem") dP2 ?_ (by rfl) (by rfl) | refine nameX_C (by k_asm) (by rfl) (by walk_at "MineMem") dB2 ?_ (by rfl) (by rfl)))
  k_steps
  unfold Hid
  rename Fr _ _ _ _ => F9
  rename News _ _ _ _ => N9
  refine store_cellN ((L1 + 1 + 1 + 1 + 1 + 1, oM) :: (L1 + 1 + 1 + 1 + 1, oW) :: (L1 + 1 + 1, oB2) :: (L1 + 1, oP2) :: news) F9 N9 (by rfl) (by walk_at "MineMem") dS ?_ ?_ ?_ (by rfl) (by rfl)
  · intro p hp
    simp only [List.mem_cons] at hp ⊢
    grind
  · intro p hp
    simp only [List.mem_cons] at hp
    rcases hp with rfl | rfl | rfl | rfl | hp
    · exact Nat.ne_of_gt (by omega)
    · exact Nat.ne_of_gt (by omega)
    · exact Nat.ne_of_lt (by omega)
    · exact Nat.ne_of_lt (by omega)
    · exact Nat.ne_of_lt (Nat.lt_of_lt_of_le (l1 p hp) (by omega))
  clear F9 N9 dS
  intro hS oS2 FS NS dS2
  replace dS2 : ∃ t, oS2.data = .cell (some (.str (sgS z) t)) := ⟨_, dS2⟩
  obtain ⟨tS, dS2⟩ := dS2
  dsimp only
  k_with_none
  k_with "MineMem" => (first | (with_reducible assumption) | (with_reducible exact List.mem_cons_self) | ((with_reducible refine List.mem_append.mpr (Or.inl ?_)); walk_at "MineMem") | ((with_reducible refine List.mem_append.mpr (Or.inr ?_)); walk_at "MineMem") | ((with_reducible refine List.mem_cons_of_mem _ ?_); walk_at "MineMem"))
  k_with "eval ListComp" => ((k_here; k_dflt (refine LCg.ListComp_U (F₀ := by k_asm) (by with_unfolding_all rfl) (by decide) (by rfl) (by decide) (by rfl) ?_)))
  k_with "MineItem" => (first | exact DatIn.none | exact DatIn.bool _ | exact DatIn.int _ _ | exact DatIn.str _ _ | assumption | (refine DatIn.mono ?_ (by assumption); (intro p hp; (try simp only [List.mem_append, List.mem_cons] at hp ⊢); grind)))
  k_with "MineLt" => (first | assumption | exact allLt_of (by assumption) | tbn_find | (simp only [AllLt, and_true]; tbn_conj))
  k_with "MineTup" => ((refine DatIn.tuple (List.mem_append.mpr (Or.inr (List.Mem.head _))) ?_; repeat' (first | exact DatAll.nil | refine DatAll.cons ?_ ?_ | walk_at "MineItem")))
  k_with "TurnEnd" => ((refine TurnEnd.intro [(_, _)] (by assumption) (tl1 (by assumption)) (off1 (by walk_at "MineLt")) (by walk_at "MineTup")))
  k_with "MineSub" => (first | exact fun _ h => h | assumption | (intro p hp; first | (exact List.Mem.tail _ (by assumption)) | (simp only [List.mem_append, List.mem_cons, List.not_mem_nil, or_false] at hp ⊢; grind)))
  k_with "subscriptTail" => ((k_here; (with_reducible show wpAny _ _ (subscriptTail _ _ (Value.ref _) (Value.int _ _)) _ _ _); k_dflt (refine' item_tupleT ?mwt ?mwa ?mwb ?mwc ?mwd ?_; (case mwt => exact News.isTup (by k_asm) (by walk_at "MineMem")); (case mwa => decide); (case mwb => decide); (case mwc => rfl); (case mwd => rfl); k_whole)))
  k_with "MineRoom" => (first | assumption | ktr_room | (dsimp only [ktrTop, Around.deeper, Around.in1] at *; simp only [recursionLimit] at *; omega))
  k_with "MineUnits" => (first | ktr_units | (have hcL9 := cLine_is; dsimp only [ktrTop, Around.deeper, Around.in1] at *; omega))
  k_with "And" => (((with_reducible show WrapAt _ _ ∧ _); k_dflt (refine ⟨WrapAt.of (by k_asm) (by walk_at "MineMemD"), ?_⟩); (try dsimp only [List.nil_append, List.cons_append])))
  k_with "eval Name" => ((k_here; (with_reducible show wpAny _ _ (eval (Expr.Name _ _) (compEnvC _ _ _ _)) _ _ _); k_dflt (first | refine LCgL.ld_own (by k_asm) (by walk_at "MineMem") (by assumption) (by assumption) ?_ | refine LCgL.ld_global (by k_asm) (by k_asm) (by k_asm) (by k_is) ?_ | refine LCgL.ld_built (by k_asm) (by k_asm) (by k_asm) (by k_is) (by boot_by_name) (by decide) ?_)))
  k_with "MineMemD" => ((repeat' (first | assumption | exact List.mem_cons_self | (refine List.mem_cons_of_mem _ ?_) | (refine List.mem_append.mpr (Or.inl ?_)) | fail "MineMemD")))
  k_with "storeName" => (refine Hid.out ?_)
  k_with "subscriptTail" => ((with_reducible show wpAny _ _ (subscriptTail _ _ (Value.ref _) (Value.int (Int.fmod (Int.fdiv _ 4) 4) _)) _ _ _); k_dflt (refine item_sg (News.isTup (by k_asm) (List.Mem.head _)) ?_ (by with_unfolding_all rfl)); intro tsg)
  k_with "eval Name" => ((with_reducible show wpAny _ _ (eval (Expr.Name _ _) (envOfC _ _ _ _ _)) _ _ _); k_dflt (first | refine nameX_C (by k_asm) (by rfl) (by walk_at "MineMem") dP2 ?_ (by rfl) (by rfl) | refine nameX_C (by k_asm) (by rfl) (by walk_at "MineMem") dB2 ?_ (by rfl) (by rfl) | refine nameX_C (by k_asm) (by rfl) (by walk_at "MineMem") dS2 ?_ (by rfl) (by rfl)))
  k_steps
  unfold Hid
  rename Fr _ _ _ _ => F9
  rename News _ _ _ _ => N9
  refine store_cellN ((L1 + 1 + 1 + 1 + 1 + 1, oM) :: (L1 + 1 + 1 + 1, oS2) :: (L1 + 1 + 1, oB2) :: (L1 + 1, oP2) :: news) F9 N9 (by rfl) (by walk_at "MineMem") dW ?_ ?_ ?_ (by rfl) (by rfl)
  · intro p hp
    simp only [List.mem_cons] at hp ⊢
    grind
  · intro p hp
    simp only [List.mem_cons] at hp
    rcases hp with rfl | rfl | rfl | rfl | hp
    · exact Nat.ne_of_gt (by omega)
    · exact Nat.ne_of_lt (by omega)
    · exact Nat.ne_of_lt (by omega)
    · exact Nat.ne_of_lt (by omega)
    · exact Nat.ne_of_lt (Nat.lt_of_lt_of_le (l1 p hp) (by omega))
  clear F9 N9 dW
  intro hW oW2 FW NW dW2
  replace dW2 : ∃ t, oW2.data = .cell (some (.int (wdS z) t)) := ⟨_, dW2⟩
  obtain ⟨tW, dW2⟩ := dW2
  dsimp only
  obtain ⟨bt, hbt⟩ : ∃ b, b = (L1 + 1 + 1 + 1 + 1, oW2) :: (L1 + 1 + 1 + 1, oS2) :: (L1 + 1 + 1, oB2) :: (L1 + 1, oP2) :: news := ⟨_, rfl⟩
  obtain ⟨bs, hbs⟩ : ∃ b, b = (L1 + 1 + 1 + 1 + 1 + 1, oM) :: bt := ⟨_, rfl⟩
  replace NW : News g1 L1 hW bs := newsIn NW (by subst hbs hbt; intro p hp; simp only [List.mem_cons] at hp ⊢; grind)
  have mW' : (L1 + 1 + 1 + 1 + 1, oW2) ∈ bt := by rw [hbt]; exact .head _
  have mS' : (L1 + 1 + 1 + 1, oS2) ∈ bt := by rw [hbt]; exact .tail _ (.head _)
  have mB' : (L1 + 1 + 1, oB2) ∈ bt := by rw [hbt]; exact .tail _ (.tail _ (.head _))
  have mP' : (L1 + 1, oP2) ∈ bt := by rw [hbt]; exact .tail _ (.tail _ (.tail _ (.head _)))
  have hnt : ∀ p ∈ news, p ∈ bt := fun p hp => by rw [hbt]; exact .tail _ (.tail _ (.tail _ (.tail _ hp)))
  have offM : ∀ p ∈ bt, p.1 ≠ L1 + 1 + 1 + 1 + 1 + 1 := by
    intro p hp
    rw [hbt] at hp
    simp only [List.mem_cons] at hp
    rcases hp with rfl | rfl | rfl | rfl | hp
    · exact Nat.ne_of_lt (by omega)
    · exact Nat.ne_of_lt (by omega)
    · exact Nat.ne_of_lt (by omega)
    · exact Nat.ne_of_lt (by omega)
    · exact Nat.ne_of_lt (Nat.lt_of_lt_of_le (l1 p hp) (by omega))
  have htb : ∀ p ∈ bt, p ∈ bs := fun p hp => by rw [hbs]; exact .tail _ hp
  have mM : (L1 + 1 + 1 + 1 + 1 + 1, oM) ∈ bs := by rw [hbs]; exact .head _
  have mW := htb _ mW'
  have mS := htb _ mS'
  have mB := htb _ mB'
  have mP := htb _ mP'
  have hnb : ∀ p ∈ news, p ∈ bs := fun p hp => htb p (hnt p hp)
  clear hbt
  k_with_none
  k_with "MineMem" => (first | (with_reducible assumption) | (with_reducible exact List.mem_cons_self) | ((with_reducible refine List.mem_append.mpr (Or.inl ?_)); walk_at "MineMem") | ((with_reducible refine List.mem_append.mpr (Or.inr ?_)); walk_at "MineMem") | ((with_reducible refine List.mem_cons_of_mem _ ?_); walk_at "MineMem"))
  k_with "eval ListComp" => ((k_here; k_dflt (refine LCg.ListComp_U (F₀ := by k_asm) (by with_unfolding_all rfl) (by decide) (by rfl) (by decide) (by rfl) ?_)))
  k_with "MineItem" => (first | exact DatIn.none | exact DatIn.bool _ | exact DatIn.int _ _ | exact DatIn.str _ _ | assumption | (refine DatIn.mono ?_ (by assumption); (intro p hp; (try simp only [List.mem_append, List.mem_cons] at hp ⊢); grind)))
  k_with "MineLt" => (first | assumption | exact allLt_of (by assumption) | tbn_find | (simp only [AllLt, and_true]; tbn_conj))
  k_with "MineTup" => ((refine DatIn.tuple (List.mem_append.mpr (Or.inr (List.Mem.head _))) ?_; repeat' (first | exact DatAll.nil | refine DatAll.cons ?_ ?_ | walk_at "MineItem")))
  k_with "TurnEnd" => ((refine TurnEnd.intro [(_, _)] (by assumption) (tl1 (by assumption)) (off1 (by walk_at "MineLt")) (by walk_at "MineTup")))
  k_with "MineSub" => (first | exact fun _ h => h | assumption | (intro p hp; first | (exact List.Mem.tail _ (by assumption)) | (simp only [List.mem_append, List.mem_cons, List.not_mem_nil, or_false] at hp ⊢; grind)))
  k_with "subscriptTail" => ((k_here; (with_reducible show wpAny _ _ (subscriptTail _ _ (Value.ref _) (Value.int _ _)) _ _ _); k_dflt (refine' item_tupleT ?mwt ?mwa ?mwb ?mwc ?mwd ?_; (case mwt => exact News.isTup (by k_asm) (by walk_at "MineMem")); (case mwa => decide); (case mwb => decide); (case mwc => rfl); (case mwd => rfl); k_whole)))
  k_with "MineRoom" => (first | assumption | ktr_room | (dsimp only [ktrTop, Around.deeper, Around.in1] at *; simp only [recursionLimit] at *; omega))
  k_with "MineUnits" => (first | ktr_units | (have hcL9 := cLine_is; dsimp only [ktrTop, Around.deeper, Around.in1] at *; omega))
  k_with "And" => (((with_reducible show WrapAt _ _ ∧ _); k_dflt (refine ⟨WrapAt.of (by k_asm) (by walk_at "MineMemD"), ?_⟩); (try dsimp only [List.nil_append, List.cons_append])))
  k_with "eval Name" => ((k_here; (with_reducible show wpAny _ _ (eval (Expr.Name _ _) (compEnvC _ _ _ _)) _ _ _); k_dflt (first | refine LCgL.ld_own (by k_asm) (by walk_at "MineMem") (by assumption) (by assumption) ?_ | refine LCgL.ld_global (by k_asm) (by k_asm) (by k_asm) (by k_is) ?_ | refine LCgL.ld_built (by k_asm) (by k_asm) (by k_asm) (by k_is) (by boot_by_name) (by decide) ?_)))
  k_with "MineMemD" => ((repeat' (first | assumption | exact List.mem_cons_self | (refine List.mem_cons_of_mem _ ?_) | (refine List.mem_append.mpr (Or.inl ?_)) | fail "MineMemD")))
  k_with "eval Name" => ((with_reducible show wpAny _ _ (eval (Expr.Name _ _) (envOfC _ _ _ _ _)) _ _ _); k_dflt (first | refine nameX_C (by k_asm) (by rfl) (by walk_at "MineMem") dP2 ?_ (by rfl) (by rfl) | refine nameX_C (by k_asm) (by rfl) (by walk_at "MineMem") dB2 ?_ (by rfl) (by rfl) | refine nameX_C (by k_asm) (by rfl) (by walk_at "MineMem") dS2 ?_ (by rfl) (by rfl) | refine nameX_C (by k_asm) (by rfl) (by walk_at "MineMem") dW2 ?_ (by rfl) (by rfl)))
  k_steps
  have hsub1 : ∀ p ∈ sub, p ∈ bs := fun p hp => hnb p (hs p hp)
  have hmem1 : (aa, W.listOf vv.toArray nn) ∈ bs := hnb _ hm'
  have hb := bs_bounds z
  refine src_U (sub := sub) (enc := Dat.int) (dec := fun x => Dat.int (numberS x (bsS z))) (ds := ns) (by rfl) FW NW hmem1 hsub1 hD (by omega) ?turn ?fin
  case' turn =>
    intro v d I' oI' C oC D m₂ ys tl' h tk' E' hd' hv hC hx F' N'
    k_with_none
    k_with "MineMem" => (first | (with_reducible assumption) | (with_reducible exact List.mem_cons_self) | ((with_reducible refine List.mem_append.mpr (Or.inl ?_)); walk_at "MineMem") | ((with_reducible refine List.mem_append.mpr (Or.inr ?_)); walk_at "MineMem") | ((with_reducible refine List.mem_cons_of_mem _ ?_); walk_at "MineMem"))
    k_with "eval ListComp" => ((k_here; k_dflt (refine LCg.ListComp_U (F₀ := by k_asm) (by with_unfolding_all rfl) (by decide) (by rfl) (by decide) (by rfl) ?_)))
    k_with "MineItem" => (first | exact DatIn.none | exact DatIn.bool _ | exact DatIn.int _ _ | exact DatIn.str _ _ | assumption | (refine DatIn.mono ?_ (by assumption); (intro p hp; (try simp only [List.mem_append, List.mem_cons] at hp ⊢); grind)))
    k_with "MineLt" => (first | assumption | exact allLt_of (by assumption) | tbn_find | (simp only [AllLt, and_true]; tbn_conj))
    k_with "MineTup" => ((refine DatIn.tuple (List.mem_append.mpr (Or.inr (List.Mem.head _))) ?_; repeat' (first | exact DatAll.nil | refine DatAll.cons ?_ ?_ | walk_at "MineItem")))
    k_with "TurnEnd" => ((refine TurnEnd.intro [(_, _)] (by assumption) (tl1 (by assumption)) (off1 (by walk_at "MineLt")) (by walk_at "MineTup")))
    k_with "MineSub" => (first | exact fun _ h => h | assumption | (intro p hp; first | (exact List.Mem.tail _ (by assumption)) | (simp only [List.mem_append, List.mem_cons, List.not_mem_nil, or_false] at hp ⊢; grind)))
    k_with "subscriptTail" => ((k_here; (with_reducible show wpAny _ _ (subscriptTail _ _ (Value.ref _) (Value.int _ _)) _ _ _); k_dflt (refine' item_tupleT ?mwt ?mwa ?mwb ?mwc ?mwd ?_; (case mwt => exact News.isTup (by k_asm) (by walk_at "MineMem")); (case mwa => decide); (case mwb => decide); (case mwc => rfl); (case mwd => rfl); k_whole)))
    k_with "MineRoom" => (first | assumption | ktr_room | (dsimp only [ktrTop, Around.deeper, Around.in1] at *; simp only [recursionLimit] at *; omega))
    k_with "MineUnits" => (first | ktr_units | (have hcL9 := cLine_is; dsimp only [ktrTop, Around.deeper, Around.in1] at *; omega))
    k_with "And" => (((with_reducible show WrapAt _ _ ∧ _); k_dflt (refine ⟨WrapAt.of (by k_asm) (by walk_at "MineMemD"), ?_⟩); (try dsimp only [List.nil_append, List.cons_append])))
    k_with "eval Name" => ((k_here; (with_reducible show wpAny _ _ (eval (Expr.Name _ _) (compEnvC _ _ _ _)) _ _ _); k_dflt (first | refine LCgL.ld_own (by k_asm) (by walk_at "MineMem") (by assumption) (by assumption) ?_ | refine LCgL.ld_global (by k_asm) (by k_asm) (by k_asm) (by k_is) ?_ | refine LCgL.ld_built (by k_asm) (by k_asm) (by k_asm) (by k_is) (by boot_by_name) (by decide) ?_)))
    k_with "MineMemD" => ((repeat' (first | assumption | exact List.mem_cons_self | (refine List.mem_cons_of_mem _ ?_) | (refine List.mem_append.mpr (Or.inl ?_)) | fail "MineMemD")))
    k_with "eval Name" => ((with_reducible show wpAny _ _ (eval (Expr.Name _ _) (compEnvC _ _ _ _)) _ _ _); k_dflt (refine lcf_cell (by k_asm) (by rfl) (by walk_at "MineMem") dB2 ?_ (by rfl) (by rfl)))
    k_with "call ref" => (refine Hid.out ?_)
    k_steps
    unfold Hid
    refine' tel_use (sub := sub ++ tl') (number_tel d (bsS z) hb.1 hb.2) (by k_asm) (by k_asm) (by k_asm) (by k_asm) (by k_asm) (by first | exact rfl | assumption) ?_ (DatAll.cons hv (DatAll.cons (DatIn.int _ _) .nil)) (by walk_at "MineRoom") (by walk_at "MineUnits") ?_
    · intro p hp
      refine .tail _ (.tail _ (.tail _ ?_))
      rcases List.mem_append.mp hp with hp | hp
      · exact List.mem_append.mpr (.inl (hsub1 p hp))
      · exact List.mem_append.mpr (.inr hp)
    intro r8 tl8 h8 tk8 F8 N8 o8 D8
    exact ⟨h8, tk8, tl8, rfl, F8, N8, o8, D8⟩
  intro g12 ys tl12 o12 D12
  clear FW NW
  intro S1 h12 tk12 F12 N12 l12
  have o12' := offIn (o := LCg.lst ys) o12 (off1_lt l12)
  obtain ⟨e1, he1⟩ : ∃ e, e = (S1, LCg.lst ys) :: tl12 := ⟨_, rfl⟩
  have N12' : News g1 L1 h12 (bs ++ e1) := newsIn N12 (by subst he1; intro p hp; exact in1 p hp)
  rw [← he1] at o12'
  have hS1 : (S1, LCg.lst ys) ∈ e1 := by subst he1; exact .head _
  have D12' : DatAll [] ys ((ns.map fun x => numberS x (bsS z)).map Dat.int) := datAll_flat (by rw [List.map_map]; exact D12) (fun d hd => by obtain ⟨i, _, rfl⟩ := List.mem_map.mp hd; rfl)
  clear N12 D12 o12 l12
  dsimp only
  k_with_none
  k_with "MineMem" => (first | (with_reducible assumption) | (with_reducible exact List.mem_cons_self) | ((with_reducible refine List.mem_append.mpr (Or.inl ?_)); walk_at "MineMem") | ((with_reducible refine List.mem_append.mpr (Or.inr ?_)); walk_at "MineMem") | ((with_reducible refine List.mem_cons_of_mem _ ?_); walk_at "MineMem"))
  k_with "eval ListComp" => ((k_here; k_dflt (refine LCg.ListComp_U (F₀ := by k_asm) (by with_unfolding_all rfl) (by decide) (by rfl) (by decide) (by rfl) ?_)))
  k_with "MineItem" => (first | exact DatIn.none | exact DatIn.bool _ | exact DatIn.int _ _ | exact DatIn.str _ _ | assumption | (refine DatIn.mono ?_ (by assumption); (intro p hp; (try simp only [List.mem_append, List.mem_cons] at hp ⊢); grind)))
  k_with "MineLt" => (first | assumption | exact allLt_of (by assumption) | tbn_find | (simp only [AllLt, and_true]; tbn_conj))
  k_with "MineTup" => ((refine DatIn.tuple (List.mem_append.mpr (Or.inr (List.Mem.head _))) ?_; repeat' (first | exact DatAll.nil | refine DatAll.cons ?_ ?_ | walk_at "MineItem")))
  k_with "TurnEnd" => ((refine TurnEnd.intro [(_, _)] (by assumption) (tl1 (by assumption)) (off1 (by walk_at "MineLt")) (by walk_at "MineTup")))
  k_with "MineSub" => (first | exact fun _ h => h | assumption | (intro p hp; first | (exact List.Mem.tail _ (by assumption)) | (simp only [List.mem_append, List.mem_cons, List.not_mem_nil, or_false] at hp ⊢; grind)))
  k_with "subscriptTail" => ((k_here; (with_reducible show wpAny _ _ (subscriptTail _ _ (Value.ref _) (Value.int _ _)) _ _ _); k_dflt (refine' item_tupleT ?mwt ?mwa ?mwb ?mwc ?mwd ?_; (case mwt => exact News.isTup (by k_asm) (by walk_at "MineMem")); (case mwa => decide); (case mwb => decide); (case mwc => rfl); (case mwd => rfl); k_whole)))
  k_with "MineRoom" => (first | assumption | ktr_room | (dsimp only [ktrTop, Around.deeper, Around.in1] at *; simp only [recursionLimit] at *; omega))
  k_with "MineUnits" => (first | ktr_units | (have hcL9 := cLine_is; dsimp only [ktrTop, Around.deeper, Around.in1] at *; omega))
  k_with "And" => (((with_reducible show WrapAt _ _ ∧ _); k_dflt (refine ⟨WrapAt.of (by k_asm) (by walk_at "MineMemD"), ?_⟩); (try dsimp only [List.nil_append, List.cons_append])))
  k_with "eval Name" => ((k_here; (with_reducible show wpAny _ _ (eval (Expr.Name _ _) (compEnvC _ _ _ _)) _ _ _); k_dflt (first | refine LCgL.ld_own (by k_asm) (by walk_at "MineMem") (by assumption) (by assumption) ?_ | refine LCgL.ld_global (by k_asm) (by k_asm) (by k_asm) (by k_is) ?_ | refine LCgL.ld_built (by k_asm) (by k_asm) (by k_asm) (by k_is) (by boot_by_name) (by decide) ?_)))
  k_with "MineMemD" => ((repeat' (first | assumption | exact List.mem_cons_self | (refine List.mem_cons_of_mem _ ?_) | (refine List.mem_append.mpr (Or.inl ?_)) | fail "MineMemD")))
  k_with "binaryOp Add ref ref" => (refine Hid.out ?_)
  k_steps
  rename Fr _ _ _ _ => F13
  rename News _ _ _ _ => N13
  unfold Hid
  have hyl : ys.length = ns.length := by have q := D12'.length; simpa using q
  refine add_arr (vs := ys) (ws := [_]) F13 N13 (isL N13 (.tail _ (List.mem_append.mpr (.inr hS1)))) (isL N13 (.head _)) (by omega) (by show 1 ≤ 1000; decide) ?_
  intro S2 h14 F14 N14 l14
  clear N13 F13
  dsimp only
  obtain ⟨vd, hvd⟩ : ∃ v, v = ys ++ [Value.int 1 tk12] := ⟨_, rfl⟩
  have D14 : DatAll [] vd ((numsS z ns).map Dat.int) := by
    rw [hvd]
    unfold numsS
    rw [List.map_append]
    exact DatAll.append D12' (.one (.int _ _))
  rw [← hvd] at N14
  obtain ⟨e2, he2⟩ : ∃ e, e = (S2, W.listOf vd.toArray 0) :: e1 := ⟨_, rfl⟩
  have N14' : News g1 L1 h14 (bs ++ e2) := newsIn N14 (by
    subst he2
    intro p hp
    rcases List.mem_append.mp hp with hp | hp
    · exact .tail _ (.tail _ (List.mem_append.mpr (.inl hp)))
    rcases List.mem_cons.mp hp with rfl | hp
    · exact .head _
    · exact .tail _ (.tail _ (List.mem_append.mpr (.inr hp))))
  have o14 : ∀ q ∈ bs, ∀ p ∈ e2, p.1 ≠ q.1 := by
    subst he2
    intro q hq p hp
    rcases List.mem_cons.mp hp with rfl | hp
    · exact Nat.ne_of_gt (l14 q (.tail _ (List.mem_append.mpr (.inl hq))))
    · exact o12' q hq p hp
  have hS2 : (S2, W.listOf vd.toArray 0) ∈ e2 := by rw [he2]; exact .head _
  clear N14 D12' o12' l14 he1 he2 hS1 hvd
  k_with_none
  k_with "MineMem" => (first | (with_reducible assumption) | (with_reducible exact List.mem_cons_self) | ((with_reducible refine List.mem_append.mpr (Or.inl ?_)); walk_at "MineMem") | ((with_reducible refine List.mem_append.mpr (Or.inr ?_)); walk_at "MineMem") | ((with_reducible refine List.mem_cons_of_mem _ ?_); walk_at "MineMem"))
  k_with "eval ListComp" => ((k_here; k_dflt (refine LCg.ListComp_U (F₀ := by k_asm) (by with_unfolding_all rfl) (by decide) (by rfl) (by decide) (by rfl) ?_)))
  k_with "MineItem" => (first | exact DatIn.none | exact DatIn.bool _ | exact DatIn.int _ _ | exact DatIn.str _ _ | assumption | (refine DatIn.mono ?_ (by assumption); (intro p hp; (try simp only [List.mem_append, List.mem_cons] at hp ⊢); grind)))
  k_with "MineLt" => (first | assumption | exact allLt_of (by assumption) | tbn_find | (simp only [AllLt, and_true]; tbn_conj))
  k_with "MineTup" => ((refine DatIn.tuple (List.mem_append.mpr (Or.inr (List.Mem.head _))) ?_; repeat' (first | exact DatAll.nil | refine DatAll.cons ?_ ?_ | walk_at "MineItem")))
  k_with "TurnEnd" => ((refine TurnEnd.intro [(_, _)] (by assumption) (tl1 (by assumption)) (off1 (by walk_at "MineLt")) (by walk_at "MineTup")))
  k_with "MineSub" => (first | exact fun _ h => h | assumption | (intro p hp; first | (exact List.Mem.tail _ (by assumption)) | (simp only [List.mem_append, List.mem_cons, List.not_mem_nil, or_false] at hp ⊢; grind)))
  k_with "subscriptTail" => ((k_here; (with_reducible show wpAny _ _ (subscriptTail _ _ (Value.ref _) (Value.int _ _)) _ _ _); k_dflt (refine' item_tupleT ?mwt ?mwa ?mwb ?mwc ?mwd ?_; (case mwt => exact News.isTup (by k_asm) (by walk_at "MineMem")); (case mwa => decide); (case mwb => decide); (case mwc => rfl); (case mwd => rfl); k_whole)))
  k_with "MineRoom" => (first | assumption | ktr_room | (dsimp only [ktrTop, Around.deeper, Around.in1] at *; simp only [recursionLimit] at *; omega))
  k_with "MineUnits" => (first | ktr_units | (have hcL9 := cLine_is; dsimp only [ktrTop, Around.deeper, Around.in1] at *; omega))
  k_with "And" => (((with_reducible show WrapAt _ _ ∧ _); k_dflt (refine ⟨WrapAt.of (by k_asm) (by walk_at "MineMemD"), ?_⟩); (try dsimp only [List.nil_append, List.cons_append])))
  k_with "eval Name" => ((k_here; (with_reducible show wpAny _ _ (eval (Expr.Name _ _) (compEnvC _ _ _ _)) _ _ _); k_dflt (first | refine LCgL.ld_own (by k_asm) (by walk_at "MineMem") (by assumption) (by assumption) ?_ | refine LCgL.ld_global (by k_asm) (by k_asm) (by k_asm) (by k_is) ?_ | refine LCgL.ld_built (by k_asm) (by k_asm) (by k_asm) (by k_is) (by boot_by_name) (by decide) ?_)))
  k_with "MineMemD" => ((repeat' (first | assumption | exact List.mem_cons_self | (refine List.mem_cons_of_mem _ ?_) | (refine List.mem_append.mpr (Or.inl ?_)) | fail "MineMemD")))
  k_with "storeName" => ((with_reducible show wpAny _ _ (storeName _ (Str.ofString "maker") _) _ _ _); refine Hid.out ?_)
  k_steps
  unfold Hid
  rename_i x1 d1 h15 F15 N15 l15 lx1
  refine store_cellN ((x1, instObj 102 d1) :: (d1, dictOf [] 0) :: (bt ++ e2)) F15 N15 (by rfl) (.tail _ (.tail _ (List.mem_append.mpr (.inl mM)))) dM ?_ ?_ ?_ (by rfl) (by rfl)
  · intro p hp
    rcases List.mem_cons.mp hp with rfl | hp
    · exact .head _
    rcases List.mem_cons.mp hp with rfl | hp
    · exact .tail _ (.head _)
    rcases List.mem_append.mp hp with hp | hp
    · exact .tail _ (.tail _ (List.mem_append.mpr (.inl (htb p hp))))
    · exact .tail _ (.tail _ (List.mem_append.mpr (.inr hp)))
  · intro p hp
    have hlM := l15 _ (List.mem_append.mpr (.inl mM))
    rcases List.mem_cons.mp hp with rfl | hp
    · exact Nat.ne_of_gt (Nat.lt_trans hlM lx1)
    rcases List.mem_cons.mp hp with rfl | hp
    · exact Nat.ne_of_gt hlM
    rcases List.mem_append.mp hp with hp | hp
    · exact offM p hp
    · exact o14 _ mM p hp
  intro h16 oM2 F16 N16 dM2
  replace dM2 : oM2.data = .cell (some (.ref x1)) := dM2
  obtain ⟨ex, hex⟩ : ∃ e, e = (L1 + 1 + 1 + 1 + 1 + 1, oM2) :: (x1, instObj 102 d1) :: (d1, dictOf [] 0) :: e2 := ⟨_, rfl⟩
  have oex : ∀ q ∈ news, ∀ p ∈ ex, p.1 ≠ q.1 := by
    intro q hq p hp
    have hlq := l15 q (List.mem_append.mpr (.inl (hnb q hq)))
    rw [hex] at hp
    rcases List.mem_cons.mp hp with rfl | hp
    · exact fun e => offM q (hnt q hq) e.symm
    rcases List.mem_cons.mp hp with rfl | hp
    · exact Nat.ne_of_gt (Nat.lt_trans hlq lx1)
    rcases List.mem_cons.mp hp with rfl | hp
    · exact Nat.ne_of_gt hlq
    · exact o14 q (hnb q hq) p hp
  obtain ⟨bb, hbb⟩ : ∃ b, b = bt ++ ex := ⟨_, rfl⟩
  have N16' : News g1 L1 h16 bb := newsIn N16 (by
    subst hbb hex
    intro p hp
    simp only [List.mem_append, List.mem_cons] at hp ⊢
    grind)
  have hbx : ∀ p ∈ ex, p ∈ bb := fun p hp => by rw [hbb]; exact List.mem_append.mpr (.inr hp)
  have hbtb : ∀ p ∈ bt, p ∈ bb := fun p hp => by rw [hbb]; exact List.mem_append.mpr (.inl hp)
  replace mM := hbx _ (show (_, oM2) ∈ ex by rw [hex]; exact .head _)
  have mX := hbx _ (show (x1, instObj 102 d1) ∈ ex by rw [hex]; exact .tail _ (.head _))
  have mD := hbx _ (show (d1, dictOf [] 0) ∈ ex by rw [hex]; exact .tail _ (.tail _ (.head _)))
  have hS2b := hbx _ (show (S2, W.listOf vd.toArray 0) ∈ ex by rw [hex]; exact .tail _ (.tail _ (.tail _ hS2)))
  replace mW := hbtb _ mW'
  replace mS := hbtb _ mS'
  replace mB := hbtb _ mB'
  replace mP := hbtb _ mP'
  have hnews : ∀ p ∈ news, p ∈ bb := fun p hp => hbtb p (hnt p hp)
  clear N16 o14 hnb htb hnt offM hbs mW' mS' mB' mP' l15 lx1 hS2 dM hex F15 N15 hsub1 hmem1
  dsimp only
  k_with_none
  k_with "MineMem" => (first | (with_reducible assumption) | (with_reducible exact List.mem_cons_self) | ((with_reducible refine List.mem_append.mpr (Or.inl ?_)); walk_at "MineMem") | ((with_reducible refine List.mem_append.mpr (Or.inr ?_)); walk_at "MineMem") | ((with_reducible refine List.mem_cons_of_mem _ ?_); walk_at "MineMem"))
  k_with "eval ListComp" => ((k_here; k_dflt (refine LCg.ListComp_U (F₀ := by k_asm) (by with_unfolding_all rfl) (by decide) (by rfl) (by decide) (by rfl) ?_)))
  k_with "MineItem" => (first | exact DatIn.none | exact DatIn.bool _ | exact DatIn.int _ _ | exact DatIn.str _ _ | assumption | (refine DatIn.mono ?_ (by assumption); (intro p hp; (try simp only [List.mem_append, List.mem_cons] at hp ⊢); grind)))
  k_with "MineLt" => (first | assumption | exact allLt_of (by assumption) | tbn_find | (simp only [AllLt, and_true]; tbn_conj))
  k_with "MineTup" => ((refine DatIn.tuple (List.mem_append.mpr (Or.inr (List.Mem.head _))) ?_; repeat' (first | exact DatAll.nil | refine DatAll.cons ?_ ?_ | walk_at "MineItem")))
  k_with "TurnEnd" => ((refine TurnEnd.intro [(_, _)] (by assumption) (tl1 (by assumption)) (off1 (by walk_at "MineLt")) (by walk_at "MineTup")))
  k_with "MineSub" => (first | exact fun _ h => h | assumption | (intro p hp; first | (exact List.Mem.tail _ (by assumption)) | (simp only [List.mem_append, List.mem_cons, List.not_mem_nil, or_false] at hp ⊢; grind)))
  k_with "subscriptTail" => ((k_here; (with_reducible show wpAny _ _ (subscriptTail _ _ (Value.ref _) (Value.int _ _)) _ _ _); k_dflt (refine' item_tupleT ?mwt ?mwa ?mwb ?mwc ?mwd ?_; (case mwt => exact News.isTup (by k_asm) (by walk_at "MineMem")); (case mwa => decide); (case mwb => decide); (case mwc => rfl); (case mwd => rfl); k_whole)))
  k_with "MineRoom" => (first | assumption | ktr_room | (dsimp only [ktrTop, Around.deeper, Around.in1] at *; simp only [recursionLimit] at *; omega))
  k_with "MineUnits" => (first | ktr_units | (have hcL9 := cLine_is; dsimp only [ktrTop, Around.deeper, Around.in1] at *; omega))
  k_with "And" => (((with_reducible show WrapAt _ _ ∧ _); k_dflt (refine ⟨WrapAt.of (by k_asm) (by walk_at "MineMemD"), ?_⟩); (try dsimp only [List.nil_append, List.cons_append])))
  k_with "eval Name" => ((k_here; (with_reducible show wpAny _ _ (eval (Expr.Name _ _) (compEnvC _ _ _ _)) _ _ _); k_dflt (first | refine LCgL.ld_own (by k_asm) (by walk_at "MineMem") (by assumption) (by assumption) ?_ | refine LCgL.ld_global (by k_asm) (by k_asm) (by k_asm) (by k_is) ?_ | refine LCgL.ld_built (by k_asm) (by k_asm) (by k_asm) (by k_is) (by boot_by_name) (by decide) ?_)))
  k_with "MineMemD" => ((repeat' (first | assumption | exact List.mem_cons_self | (refine List.mem_cons_of_mem _ ?_) | (refine List.mem_append.mpr (Or.inl ?_)) | fail "MineMemD")))
  k_steps
  have hnl : (numsS z ns).length ≤ 10 := by unfold numsS; rw [List.length_append, List.length_map]; show _ + 1 ≤ 10; omega
  refine src_U (sub := []) (enc := Dat.int) (dec := fun n => Dat.str (textS z n)) (ds := numsS z ns) (by rfl) F16 N16' hS2b (fun _ h => nomatch h) D14 (by omega) ?turn2 ?fin2
  case' turn2 =>
    intro v d I' oI' C oC D m₂ ys tl' h tk' E' hd' hv hC hx F' N'
    k_with_none
    k_with "MineMem" => (first | (with_reducible assumption) | (with_reducible exact List.mem_cons_self) | ((with_reducible refine List.mem_append.mpr (Or.inl ?_)); walk_at "MineMem") | ((with_reducible refine List.mem_append.mpr (Or.inr ?_)); walk_at "MineMem") | ((with_reducible refine List.mem_cons_of_mem _ ?_); walk_at "MineMem"))
    k_with "eval ListComp" => ((k_here; k_dflt (refine LCg.ListComp_U (F₀ := by k_asm) (by with_unfolding_all rfl) (by decide) (by rfl) (by decide) (by rfl) ?_)))
    k_with "MineItem" => (first | exact DatIn.none | exact DatIn.bool _ | exact DatIn.int _ _ | exact DatIn.str _ _ | assumption | (refine DatIn.mono ?_ (by assumption); (intro p hp; (try simp only [List.mem_append, List.mem_cons] at hp ⊢); grind)))
    k_with "MineLt" => (first | assumption | exact allLt_of (by assumption) | tbn_find | (simp only [AllLt, and_true]; tbn_conj))
    k_with "MineTup" => ((refine DatIn.tuple (List.mem_append.mpr (Or.inr (List.Mem.head _))) ?_; repeat' (first | exact DatAll.nil | refine DatAll.cons ?_ ?_ | walk_at "MineItem")))
    k_with "TurnEnd" => ((refine TurnEnd.intro [(_, _)] (by assumption) (tl1 (by assumption)) (off1 (by walk_at "MineLt")) (by walk_at "MineTup")))
    k_with "MineSub" => (first | exact fun _ h => h | assumption | (intro p hp; first | (exact List.Mem.tail _ (by assumption)) | (simp only [List.mem_append, List.mem_cons, List.not_mem_nil, or_false] at hp ⊢; grind)))
    k_with "subscriptTail" => ((k_here; (with_reducible show wpAny _ _ (subscriptTail _ _ (Value.ref _) (Value.int _ _)) _ _ _); k_dflt (refine' item_tupleT ?mwt ?mwa ?mwb ?mwc ?mwd ?_; (case mwt => exact News.isTup (by k_asm) (by walk_at "MineMem")); (case mwa => decide); (case mwb => decide); (case mwc => rfl); (case mwd => rfl); k_whole)))
    k_with "MineRoom" => (first | assumption | ktr_room | (dsimp only [ktrTop, Around.deeper, Around.in1] at *; simp only [recursionLimit] at *; omega))
    k_with "MineUnits" => (first | ktr_units | (have hcL9 := cLine_is; dsimp only [ktrTop, Around.deeper, Around.in1] at *; omega))
    k_with "And" => (((with_reducible show WrapAt _ _ ∧ _); k_dflt (refine ⟨WrapAt.of (by k_asm) (by walk_at "MineMemD"), ?_⟩); (try dsimp only [List.nil_append, List.cons_append])))
    k_with "eval Name" => ((k_here; (with_reducible show wpAny _ _ (eval (Expr.Name _ _) (compEnvC _ _ _ _)) _ _ _); k_dflt (first | refine LCgL.ld_own (by k_asm) (by walk_at "MineMem") (by assumption) (by assumption) ?_ | refine LCgL.ld_global (by k_asm) (by k_asm) (by k_asm) (by k_is) ?_ | refine LCgL.ld_built (by k_asm) (by k_asm) (by k_asm) (by k_is) (by boot_by_name) (by decide) ?_)))
    k_with "MineMemD" => ((repeat' (first | assumption | exact List.mem_cons_self | (refine List.mem_cons_of_mem _ ?_) | (refine List.mem_append.mpr (Or.inl ?_)) | fail "MineMemD")))
    refine MethodCall_ ?_
    refine lcf_cell (by k_asm) (by rfl) (by walk_at "MineMem") dM2 ?_ (by rfl) (by rfl)
    refine' method_inst ?k1 ?k2 ?k3 ?k4 ?k5 ?k6 ?k7 ?_
    (case k1 => k_asm); (case k2 => k_asm); (case k3 => exact InstAt.of_news (x := x1) (C := 102) (dx := d1) (by k_asm) (by walk_at "MineMem") (by walk_at "MineMem"))
    (case k4 => k_is); (case k5 => k_is); (case k6 => k_is); (case k7 => k_get)
    dsimp only
    refine' callWith_K ?k1 (keepIn_fn ?k2) ?_
    (case k1 => k_asm); (case k2 => k_is)
    k_with "eval Name" => ((with_reducible show wpAny _ _ (eval (Expr.Name _ _) (compEnvC _ _ _ _)) _ _ _); k_dflt (first | refine lcf_cell (by k_asm) (by rfl) (by walk_at "MineMem") dS2 ?_ (by rfl) (by rfl) | refine lcf_cell (by k_asm) (by rfl) (by walk_at "MineMem") dW2 ?_ (by rfl) (by rfl) | refine lcf_cell (by k_asm) (by rfl) (by walk_at "MineMem") dP2 ?_ (by rfl) (by rfl)))
    k_with "subscriptTail" => (refine item_let ?_; intro tl9 kl9; (try dsimp only))
    have hlens := spec_lens z
    k_with "binaryOp Add str str" => (refine add_str (hsz := ?_) ?_; (focus ((try simp only [Str.length_append]); rw [sizeLine_eq]; omega)); intro ta9 ka9; (try dsimp only))
    k_with "call type:str" => (refine P.str_of_int (by have h := wd_bounds z; exact Nat.lt_of_le_of_lt (Nat.log2_le_self _) (by omega)) ?_)
    k_with "call ref" => (refine Hid.out ?_)
    k_steps
    unfold Hid
    obtain ⟨tv, rfl⟩ := invI hv
    have hn := nums_le hd'
    refine' tel_use (sub := []) (ff_tel (spec_ne z) (fmt_spec hn) (texts_len hn)) (by k_asm) (by k_asm) (by k_asm) (by k_asm) (by k_asm) (by first | exact rfl | assumption) (fun _ h => nomatch h) ⟨_, _, _, rfl⟩ (by walk_at "MineRoom") (by walk_at "MineUnits") ?_
    intro r8 tl8 h8 tk8 F8 N8 o8 D8
    exact ⟨h8, tk8, tl8, rfl, F8, N8, o8, datIn_flat D8 rfl⟩
  case' fin2 =>
  intro g17 ys3 tl17 o17 D17
  clear F16 N16'
  intro S3 h17 tk17 F17 N17 l17
  have o17' := offIn (o := LCg.lst ys3) o17 (off1_lt l17)
  obtain ⟨e3, he3⟩ : ∃ e, e = (S3, LCg.lst ys3) :: tl17 := ⟨_, rfl⟩
  have N17' : News g1 L1 h17 (bb ++ e3) := newsIn N17 (by subst he3; intro p hp; exact in1 p hp)
  rw [← he3] at o17'
  have hS3 : (S3, LCg.lst ys3) ∈ e3 := by subst he3; exact .head _
  have D17' : DatAll [] ys3 ((numsS z ns).map fun n => Dat.str (textS z n)) := datAll_flat D17 (fun d hd => by obtain ⟨i, _, rfl⟩ := List.mem_map.mp hd; rfl)
  clear N17 D17 o17 l17 he3
  dsimp only
  k_with_none
  k_with "MineMem" => (first | (with_reducible assumption) | (with_reducible exact List.mem_cons_self) | ((with_reducible refine List.mem_append.mpr (Or.inl ?_)); walk_at "MineMem") | ((with_reducible refine List.mem_append.mpr (Or.inr ?_)); walk_at "MineMem") | ((with_reducible refine List.mem_cons_of_mem _ ?_); walk_at "MineMem"))
  k_with "eval ListComp" => ((k_here; k_dflt (refine LCg.ListComp_U (F₀ := by k_asm) (by with_unfolding_all rfl) (by decide) (by rfl) (by decide) (by rfl) ?_)))
  k_with "MineItem" => (first | exact DatIn.none | exact DatIn.bool _ | exact DatIn.int _ _ | exact DatIn.str _ _ | assumption | (refine DatIn.mono ?_ (by assumption); (intro p hp; (try simp only [List.mem_append, List.mem_cons] at hp ⊢); grind)))
  k_with "MineLt" => (first | assumption | exact allLt_of (by assumption) | tbn_find | (simp only [AllLt, and_true]; tbn_conj))
  k_with "MineTup" => ((refine DatIn.tuple (List.mem_append.mpr (Or.inr (List.Mem.head _))) ?_; repeat' (first | exact DatAll.nil | refine DatAll.cons ?_ ?_ | walk_at "MineItem")))
  k_with "TurnEnd" => ((refine TurnEnd.intro [(_, _)] (by assumption) (tl1 (by assumption)) (off1 (by walk_at "MineLt")) (by walk_at "MineTup")))
  k_with "MineSub" => (first | exact fun _ h => h | assumption | (intro p hp; first | (exact List.Mem.tail _ (by assumption)) | (simp only [List.mem_append, List.mem_cons, List.not_mem_nil, or_false] at hp ⊢; grind)))
  k_with "subscriptTail" => ((k_here; (with_reducible show wpAny _ _ (subscriptTail _ _ (Value.ref _) (Value.int _ _)) _ _ _); k_dflt (refine' item_tupleT ?mwt ?mwa ?mwb ?mwc ?mwd ?_; (case mwt => exact News.isTup (by k_asm) (by walk_at "MineMem")); (case mwa => decide); (case mwb => decide); (case mwc => rfl); (case mwd => rfl); k_whole)))
  k_with "MineRoom" => (first | assumption | ktr_room | (dsimp only [ktrTop, Around.deeper, Around.in1] at *; simp only [recursionLimit] at *; omega))
  k_with "MineUnits" => (first | ktr_units | (have hcL9 := cLine_is; dsimp only [ktrTop, Around.deeper, Around.in1] at *; omega))
  k_with "And" => (((with_reducible show WrapAt _ _ ∧ _); k_dflt (refine ⟨WrapAt.of (by k_asm) (by walk_at "MineMemD"), ?_⟩); (try dsimp only [List.nil_append, List.cons_append])))
  k_with "eval Name" => ((k_here; (with_reducible show wpAny _ _ (eval (Expr.Name _ _) (compEnvC _ _ _ _)) _ _ _); k_dflt (first | refine LCgL.ld_own (by k_asm) (by walk_at "MineMem") (by assumption) (by assumption) ?_ | refine LCgL.ld_global (by k_asm) (by k_asm) (by k_asm) (by k_is) ?_ | refine LCgL.ld_built (by k_asm) (by k_asm) (by k_asm) (by k_is) (by boot_by_name) (by decide) ?_)))
  k_with "MineMemD" => ((repeat' (first | assumption | exact List.mem_cons_self | (refine List.mem_cons_of_mem _ ?_) | (refine List.mem_append.mpr (Or.inl ?_)) | fail "MineMemD")))
  k_steps
  refine src_U (sub := []) (enc := Dat.int) (dec := numlS z) (ds := numsS z ns) (by rfl) F17 N17' (List.mem_append.mpr (.inl hS2b)) (fun _ h => nomatch h) D14 (by omega) ?turn3 ?fin3
  case' turn3 =>
    clear F17 N17'
    intro v d I' oI' C oC D m₂ ys tl' h tk' E' hd' hv hC hx F' N'
    k_with_none
    k_with "MineMem" => (first | (with_reducible assumption) | (with_reducible exact List.mem_cons_self) | ((with_reducible refine List.mem_append.mpr (Or.inl ?_)); walk_at "MineMem") | ((with_reducible refine List.mem_append.mpr (Or.inr ?_)); walk_at "MineMem") | ((with_reducible refine List.mem_cons_of_mem _ ?_); walk_at "MineMem"))
    k_with "eval ListComp" => ((k_here; k_dflt (refine LCg.ListComp_U (F₀ := by k_asm) (by with_unfolding_all rfl) (by decide) (by rfl) (by decide) (by rfl) ?_)))
    k_with "MineItem" => (first | exact DatIn.none | exact DatIn.bool _ | exact DatIn.int _ _ | exact DatIn.str _ _ | assumption | (refine DatIn.mono ?_ (by assumption); (intro p hp; (try simp only [List.mem_append, List.mem_cons] at hp ⊢); grind)))
    k_with "MineLt" => (first | assumption | exact allLt_of (by assumption) | tbn_find | (simp only [AllLt, and_true]; tbn_conj))
    k_with "MineTup" => ((refine DatIn.tuple (List.mem_append.mpr (Or.inr (List.Mem.head _))) ?_; repeat' (first | exact DatAll.nil | refine DatAll.cons ?_ ?_ | walk_at "MineItem")))
    k_with "TurnEnd" => ((refine TurnEnd.intro [(_, _)] (by assumption) (tl1 (by assumption)) (off1 (by walk_at "MineLt")) (by walk_at "MineTup")))
    k_with "MineSub" => (first | exact fun _ h => h | assumption | (intro p hp; first | (exact List.Mem.tail _ (by assumption)) | (simp only [List.mem_append, List.mem_cons, List.not_mem_nil, or_false] at hp ⊢; grind)))
    k_with "subscriptTail" => ((k_here; (with_reducible show wpAny _ _ (subscriptTail _ _ (Value.ref _) (Value.int _ _)) _ _ _); k_dflt (refine' item_tupleT ?mwt ?mwa ?mwb ?mwc ?mwd ?_; (case mwt => exact News.isTup (by k_asm) (by walk_at "MineMem")); (case mwa => decide); (case mwb => decide); (case mwc => rfl); (case mwd => rfl); k_whole)))
    k_with "MineRoom" => (first | assumption | ktr_room | (dsimp only [ktrTop, Around.deeper, Around.in1] at *; simp only [recursionLimit] at *; omega))
    k_with "MineUnits" => (first | ktr_units | (have hcL9 := cLine_is; dsimp only [ktrTop, Around.deeper, Around.in1] at *; omega))
    k_with "And" => (((with_reducible show WrapAt _ _ ∧ _); k_dflt (refine ⟨WrapAt.of (by k_asm) (by walk_at "MineMemD"), ?_⟩); (try dsimp only [List.nil_append, List.cons_append])))
    k_with "eval Name" => ((k_here; (with_reducible show wpAny _ _ (eval (Expr.Name _ _) (compEnvC _ _ _ _)) _ _ _); k_dflt (first | refine LCgL.ld_own (by k_asm) (by walk_at "MineMem") (by assumption) (by assumption) ?_ | refine LCgL.ld_global (by k_asm) (by k_asm) (by k_asm) (by k_is) ?_ | refine LCgL.ld_built (by k_asm) (by k_asm) (by k_asm) (by k_is) (by boot_by_name) (by decide) ?_)))
    k_with "MineMemD" => ((repeat' (first | assumption | exact List.mem_cons_self | (refine List.mem_cons_of_mem _ ?_) | (refine List.mem_append.mpr (Or.inl ?_)) | fail "MineMemD")))
    k_with "eval Name" => ((with_reducible show wpAny _ _ (eval (Expr.Name _ _) (compEnvC _ _ _ _)) _ _ _); k_dflt (first | refine lcf_cell (by k_asm) (by rfl) (by walk_at "MineMem") dB2 ?_ (by rfl) (by rfl) | refine lcf_cell (by k_asm) (by rfl) (by walk_at "MineMem") dS2 ?_ (by rfl) (by rfl) | refine lcf_cell (by k_asm) (by rfl) (by walk_at "MineMem") dW2 ?_ (by rfl) (by rfl)))
    k_with "call ref" => (refine Hid.out ?_)
    k_steps
    unfold Hid
    obtain ⟨tv, rfl⟩ := invI hv
    have hn := nums_le hd'
    refine' tel_use (sub := []) (numeral_tel d (bsS z) (wdS z) (sgS z) hn hb.1 hb.2 (wd_bounds z).1 (wd_bounds z).2 (spec_lens z).1) (by k_asm) (by k_asm) (by k_asm) (by k_asm) (by k_asm) (by first | exact rfl | assumption) (fun _ h => nomatch h) (.cons (.int _ _) (.cons (.int _ _) (.cons (.str _ _) (.cons (.int _ _) .nil)))) (by walk_at "MineRoom") (by walk_at "MineUnits") ?_
    intro r8 tl8 h8 tk8 F8 N8 o8 D8
    exact ⟨h8, tk8, tl8, rfl, F8, N8, o8, DatIn.mono (fun p hp => List.mem_append.mpr (.inr hp)) D8⟩
  case' fin3 =>
  intro g19 ys4 tl19 o19 D19
  clear F17 N17'
  intro S4 h19 tk19 F19 N19 l19
  dsimp only
  k_with_none
  k_with "MineMem" => (first | (with_reducible assumption) | (with_reducible exact List.mem_cons_self) | ((with_reducible refine List.mem_append.mpr (Or.inl ?_)); walk_at "MineMem") | ((with_reducible refine List.mem_append.mpr (Or.inr ?_)); walk_at "MineMem") | ((with_reducible refine List.mem_cons_of_mem _ ?_); walk_at "MineMem"))
  k_with "eval ListComp" => ((k_here; k_dflt (refine LCg.ListComp_U (F₀ := by k_asm) (by with_unfolding_all rfl) (by decide) (by rfl) (by decide) (by rfl) ?_)))
  k_with "MineItem" => (first | exact DatIn.none | exact DatIn.bool _ | exact DatIn.int _ _ | exact DatIn.str _ _ | assumption | (refine DatIn.mono ?_ (by assumption); (intro p hp; (try simp only [List.mem_append, List.mem_cons] at hp ⊢); grind)))
  k_with "MineLt" => (first | assumption | exact allLt_of (by assumption) | tbn_find | (simp only [AllLt, and_true]; tbn_conj))
  k_with "MineTup" => ((refine DatIn.tuple (List.mem_append.mpr (Or.inr (List.Mem.head _))) ?_; repeat' (first | exact DatAll.nil | refine DatAll.cons ?_ ?_ | walk_at "MineItem")))
  k_with "TurnEnd" => ((refine TurnEnd.intro [(_, _)] (by assumption) (tl1 (by assumption)) (off1 (by walk_at "MineLt")) (by walk_at "MineTup")))
  k_with "MineSub" => (first | exact fun _ h => h | assumption | (intro p hp; first | (exact List.Mem.tail _ (by assumption)) | (simp only [List.mem_append, List.mem_cons, List.not_mem_nil, or_false] at hp ⊢; grind)))
  k_with "subscriptTail" => ((k_here; (with_reducible show wpAny _ _ (subscriptTail _ _ (Value.ref _) (Value.int _ _)) _ _ _); k_dflt (refine' item_tupleT ?mwt ?mwa ?mwb ?mwc ?mwd ?_; (case mwt => exact News.isTup (by k_asm) (by walk_at "MineMem")); (case mwa => decide); (case mwb => decide); (case mwc => rfl); (case mwd => rfl); k_whole)))
  k_with "MineRoom" => (first | assumption | ktr_room | (dsimp only [ktrTop, Around.deeper, Around.in1] at *; simp only [recursionLimit] at *; omega))
  k_with "MineUnits" => (first | ktr_units | (have hcL9 := cLine_is; dsimp only [ktrTop, Around.deeper, Around.in1] at *; omega))
  k_with "And" => (((with_reducible show WrapAt _ _ ∧ _); k_dflt (refine ⟨WrapAt.of (by k_asm) (by walk_at "MineMemD"), ?_⟩); (try dsimp only [List.nil_append, List.cons_append])))
  k_with "eval Name" => ((k_here; (with_reducible show wpAny _ _ (eval (Expr.Name _ _) (compEnvC _ _ _ _)) _ _ _); k_dflt (first | refine LCgL.ld_own (by k_asm) (by walk_at "MineMem") (by assumption) (by assumption) ?_ | refine LCgL.ld_global (by k_asm) (by k_asm) (by k_asm) (by k_is) ?_ | refine LCgL.ld_built (by k_asm) (by k_asm) (by k_asm) (by k_is) (by boot_by_name) (by decide) ?_)))
  k_with "MineMemD" => ((repeat' (first | assumption | exact List.mem_cons_self | (refine List.mem_cons_of_mem _ ?_) | (refine List.mem_append.mpr (Or.inl ?_)) | fail "MineMemD")))
  k_steps
  rename_i D20 h20 F20 N20 l20 kF kN Tc kX
  refine hret _ ((D20, { cls := .type "tuple", data := .seq #[.ref S3, .ref S4] }) :: (S4, LCg.lst ys4) :: (e3 ++ tl19)) _ _ kF (newsIn kN ?_) ?_ ?_
  · intro p hp
    rcases List.mem_append.mp hp with hp | hp
    · exact .tail _ (.tail _ (List.mem_append.mpr (.inl (List.mem_append.mpr (.inl (hnews p hp))))))
    rcases List.mem_cons.mp hp with rfl | hp
    · exact .head _
    rcases List.mem_cons.mp hp with rfl | hp
    · exact .tail _ (.head _)
    rcases List.mem_append.mp hp with hp | hp
    · exact .tail _ (.tail _ (List.mem_append.mpr (.inl (List.mem_append.mpr (.inr hp)))))
    · exact .tail _ (.tail _ (List.mem_append.mpr (.inr hp)))
  · intro q hq p hp
    have hq1 : q ∈ bb ++ e3 := List.mem_append.mpr (.inl (hnews q hq))
    rcases List.mem_cons.mp hp with rfl | hp
    · exact Nat.ne_of_gt (ktn_ltOf l20.2 q (List.mem_append.mpr (.inl hq1)))
    rcases List.mem_cons.mp hp with rfl | hp
    · exact (off1_lt l19 q (List.mem_append.mpr (.inl hq1))).symm
    rcases List.mem_append.mp hp with hp | hp
    · exact o17' q (hnews q hq) p hp
    · exact o19 q hq1 p hp
  · refine DatIn.tuple (List.mem_append.mpr (.inr (.head _))) (.cons ?_ (.cons ?_ .nil))
    · exact DatIn.list (List.mem_append.mpr (.inr (.tail _ (.tail _ (List.mem_append.mpr (.inl hS3)))))) (DatAll.mono (news := []) (fun _ h => nomatch h) D17')
    · exact DatIn.list (List.mem_append.mpr (.inr (.tail _ (.head _)))) (DatAll.mono (fun p hp => List.mem_append.mpr (.inr (.tail _ (.tail _ (List.mem_append.mpr (.inr hp)))))) D19)

section
variable {prog : Program} {w : World} {A : Around} {h₀ : Heap} {L : Addr} {m : Str → Option Value} {env : Env} {elt : Expr} {x x₂ : Str} {scope : Scope} {cl : List (Str × Addr)} {s s₁ : Shared} {Fin : List Value → List (Addr × Obj) → Prop} {news sub : List (Addr × Obj)}
theorem invT2 {led : List (Addr × Obj)} {v : Value} {d e : Dat} (h : DatIn led v (.tuple [d, e])) : ∃ a v₁ v₂ n, v = .ref a ∧ (a, ({ cls := .type "tuple", data := .seq [v₁, v₂].toArray n } : Obj)) ∈ led ∧ DatIn led v₁ d ∧ DatIn led v₂ e := by
  cases h with
  | tuple hm r =>
    obtain ⟨_, _, rfl, h1, h2⟩ := inv2 r
    exact ⟨_, _, _, _, rfl, hm, h1, h2⟩
/-- a comprehension over pairs -/
theorem comp_restP {δ : Type} {en1 en2 dec : δ → Dat} {ax : Addr} {vs : List Value} {ds : List δ} (hS : LCg.SrcAt h₀ ax vs.toArray news) (hsub : ∀ q ∈ sub, q ∈ news) (hd : DatAll sub vs (ds.map fun d => .tuple [en1 d, en2 d]))
    (turn : ∀ v₁ v₂ d I oI C oC D m₂ ys tl h tk (E' : Value → Shared → Prop), d ∈ ds → DatIn (sub ++ tl) v₁ (en1 d) → DatIn (sub ++ tl) v₂ (en2 d) → LCg.NsObj oC m₂ → m₂ x = some v₁ → m₂ x₂ = some v₂ → Fr h₀ L h m → News h₀ L h ((I, oI) :: (C, oC) :: (D, LCg.lst ys) :: (news ++ tl)) →
      wpAny (model prog w) A (eval elt (compEnvC scope cl C env)) (TurnEnd h₀ L m { s with heap := h, toks := tk } ((I, oI) :: (C, oC) :: (D, LCg.lst ys) :: (news ++ tl)) (fun y tl' => DatIn (sub ++ tl ++ tl') y (dec d))) E' { s with heap := h, toks := tk })
    (fin : ∀ ys tl, (∀ q ∈ news, ∀ p ∈ tl, p.1 ≠ q.1) → DatAll (sub ++ tl) ys (ds.map dec) → Fin ys (news ++ tl)) :
    LCp.CompRestP prog w A h₀ L m env elt x x₂ scope cl s (LCg.SrcAt h₀ ax vs.toArray) (fun i v => vs.toArray[i]? = some v) Fin vs.toArray.size 0 [] news := by
  have hlen : vs.length = ds.length := by rw [hd.length, List.length_map]
  have key : ∀ (j i : Nat) (ys : List Value) (tl : List (Addr × Obj)), i + j = vs.length → (∀ q ∈ news, ∀ p ∈ tl, p.1 ≠ q.1) → DatAll (sub ++ tl) ys ((ds.take i).map dec) →
      LCp.CompRestP prog w A h₀ L m env elt x x₂ scope cl s (LCg.SrcAt h₀ ax vs.toArray) (fun i v => vs.toArray[i]? = some v) Fin j i ys (news ++ tl) := by
    intro j
    induction j with
    | zero =>
      intro i ys tl hi ho hy
      have e : i = ds.length := by omega
      subst e
      rw [List.take_length] at hy
      exact LCp.CompRestP.zero (fin ys tl ho hy)
    | succ j ih =>
      intro i ys tl hi ho hy
      refine LCp.CompRestP.succ ?_
      intro v hv
      have hv' : vs[i]? = some v := by simpa using hv
      obtain ⟨d, hdi, hdv⟩ := datAll_get hd hv'
      obtain ⟨t, v₁, v₂, nt, rfl, hmt, h1, h2⟩ := invT2 hdv
      refine ⟨t, _, v₁, v₂, nt, rfl, List.mem_append.mpr (.inl (hsub _ hmt)), rfl, rfl, ?_⟩
      intro I oI C oC D m₂ h tk E' hC hx hx2 F N off ne
      refine wpAny_mono (turn v₁ v₂ d I oI C oC D m₂ ys tl h tk E' (List.mem_of_getElem? hdi) (DatIn.mono (fun p hp => List.mem_append.mpr (.inl hp)) h1) (DatIn.mono (fun p hp => List.mem_append.mpr (.inl hp)) h2) hC hx hx2 F N) (fun y s₂ hq => ?_) fun _ _ e => e
      obtain ⟨h', tk', tl', rfl, F', N', o', hy'⟩ := hq
      refine ⟨h', tk', news ++ tl ++ tl', rfl, F', ?_, off3_of o' off, ?_, ?_⟩
      · intro p hp
        refine N' p ?_
        rcases List.mem_cons.mp hp with rfl | hp
        · exact .head _
        · rcases List.mem_cons.mp hp with rfl | hp
          · exact .tail _ (.head _)
          · rcases List.mem_cons.mp hp with rfl | hp
            · exact .tail _ (.tail _ (.head _))
            · exact .tail _ (.tail _ (.tail _ hp))
      · rcases hS with hS | ⟨o, hm, r⟩
        · exact .inl hS
        · exact .inr ⟨o, List.mem_append.mpr (.inl (List.mem_append.mpr (.inl hm))), r⟩
      · rw [List.append_assoc]
        refine ih (i + 1) _ (tl ++ tl') (by omega) ?_ ?_
        · intro q hq p hp
          rcases List.mem_append.mp hp with hp | hp
          · exact ho q hq p hp
          · exact o' q (.tail _ (.tail _ (.tail _ (List.mem_append.mpr (.inl hq))))) p hp
        · rw [List.take_add_one, hdi, List.map_append, ← List.append_assoc]
          refine DatAll.append (DatAll.mono (fun p hp => List.mem_append.mpr (.inl hp)) hy) ?_
          exact .one hy'
  have q := key vs.length 0 [] [] (by omega) off0 (by simp only [List.take_zero, List.map_nil]; exact .nil)
  rw [List.append_nil] at q
  rw [List.size_toArray]
  exact q
theorem src_P {δ : Type} {en1 en2 dec : δ → Dat} {ax : Addr} {vs : List Value} {ds : List δ} {kk : Nat} {Fi : Shared → List Value → List (Addr × Obj) → Prop} (hh : A.handled = none) (F : Fr h₀ L s₁.heap m) (N : News h₀ L s₁.heap news) (hl : (ax, listOf vs.toArray kk) ∈ news) (hsub : ∀ q ∈ sub, q ∈ news)
    (hd : DatAll sub vs (ds.map fun d => .tuple [en1 d, en2 d])) (hsz : ds.length ≤ 1000)
    (turn : ∀ v₁ v₂ d I oI C oC D m₂ ys tl h tk (E' : Value → Shared → Prop), d ∈ ds → DatIn (sub ++ tl) v₁ (en1 d) → DatIn (sub ++ tl) v₂ (en2 d) → LCg.NsObj oC m₂ → m₂ x = some v₁ → m₂ x₂ = some v₂ → Fr h₀ L h m → News h₀ L h ((I, oI) :: (C, oC) :: (D, LCg.lst ys) :: (news ++ tl)) →
      wpAny (model prog w) A (eval elt (compEnvC scope cl C env)) (TurnEnd h₀ L m { s₁ with heap := h, toks := tk } ((I, oI) :: (C, oC) :: (D, LCg.lst ys) :: (news ++ tl)) (fun y tl' => DatIn (sub ++ tl ++ tl') y (dec d))) E' { s₁ with heap := h, toks := tk })
    (fin : ∀ (g : Heap) ys tl, (∀ q ∈ news, ∀ p ∈ tl, p.1 ≠ q.1) → DatAll (sub ++ tl) ys (ds.map dec) → Fi { s₁ with heap := g } ys (news ++ tl)) : LCp.SrcLP prog w A h₀ L m env elt x x₂ scope cl Fi (.ref ax) s₁ :=
  LCp.SrcLP.ledger hh F N hl (by
    have := hd.length
    rw [List.length_map] at this
    have h1 : vs.toArray.size = vs.length := List.size_toArray
    rw [h1, sizeLine_eq]; omega) fun g => comp_restP (.inr ⟨_, hl, rfl, _, rfl⟩) hsub hd turn (fin g)
end
section
variable {prog : Program} {w : World} {A : Around} {E : Value → Shared → Prop} {s : Shared} {h₀ : Heap} {env : Env} {L : Addr} {tgt : PySem.Expr} {body : List Stmt} {Q : Flow → Shared → Prop} {tup : Bool} {l : Addr} {ol : Obj}
/-- a loop over a ledger's list by an invariant -/
theorem seq_inv {J : (Str → Option Value) → List (Addr × Obj) → Prop} {P : Value → Prop}
    (turn : ∀ v i I oI h tk m led, P v → J m led → (l, ol) ∈ led → IsIt tup l i oI → Fr h₀ L h m → News h₀ L h ((I, oI) :: led) → (∀ p ∈ led, p.1 ≠ I) →
      wpAny (model prog w) A (assign tgt env v) (fun _ s₂ => wpAny (model prog w) A (execs body env) (SeqPost h₀ L s I tup l i (fun m' led' => (l, ol) ∈ led' ∧ J m' led') Q) E s₂) E { s with heap := h, toks := tk })
    (last : ∀ m led h tk, J m led → Fr h₀ L h m → News h₀ L h led → Q .next { s with heap := h, toks := tk }) :
    ∀ (vals : List Value) (i : Nat) (m : Str → Option Value) (led : List (Addr × Obj)), (∀ v ∈ vals, P v) → J m led → (l, ol) ∈ led → SeqRest prog w A E h₀ env L tgt body Q s tup l ol vals i m led := by
  intro vals
  induction vals with
  | nil => intro i m led _ hJ _ h tk F N; exact last m led h tk hJ F N
  | cons v vals ih =>
    intro i m led hP hJ hl I oI h tk hI F N off
    refine wpAny_mono (turn v (i + 1) I oI h tk m led (hP v (.head _)) hJ hl hI F N off) (fun _ s₂ h₂ => ?_) fun _ _ e => e
    refine wpAny_mono h₂ (fun f s₃ h₃ => ?_) fun _ _ e => e
    have go : SeqEnd h₀ L s I tup l (i + 1) (fun m' led' => (l, ol) ∈ led' ∧ J m' led') s₃ → SeqEnd h₀ L s I tup l (i + 1) (fun m' led' => (l, ol) ∈ led' ∧ SeqRest prog w A E h₀ env L tgt body Q s tup l ol vals (i + 1) m' led') s₃ := by
      rintro ⟨h', tk', m', led', oI', e, F', N', hI', off', hl', hJ'⟩
      exact ⟨h', tk', m', led', oI', e, F', N', hI', off', hl', ih (i + 1) m' led' (fun u hu => hP u (.tail _ hu)) hJ' hl'⟩
    cases f with
    | ret v => exact h₃
    | brk => exact h₃
    | next => exact go h₃
    | cont => exact go h₃
end

theorem figsL_bd {b w fl : Int} (hb : 2 ≤ b) (hb2 : b ≤ 16) : ∀ (k : Nat) (l : Int) (fs : List Int), (∀ i ∈ fs, 0 ≤ i ∧ i < 16) → ∀ i ∈ figsL b w fl k l fs, 0 ≤ i ∧ i < 16 := by
  intro k
  induction k with
  | zero => intro l fs h; exact h
  | succ k ih =>
    intro l fs h
    unfold figsL
    split
    · refine ih _ _ fun i hi => ?_
      rcases List.mem_cons.mp hi with rfl | hi
      · have h1 := Int.fmod_nonneg_of_pos l (show 0 < b by omega)
        have h2 := Int.fmod_lt_of_pos l (show 0 < b by omega)
        omega
      · exact h i hi
    · exact h
theorem figs_bd {n b w : Int} {sg : Str} (hb : 2 ≤ b) (hb2 : b ≤ 16) : ∀ i ∈ figS n b sg w, 0 ≤ i ∧ i < 16 := figsL_bd hb hb2 _ _ _ fun _ h => nomatch h
def hxs : List Nat := (List.range 16).map fun i => hx (i : Nat)
theorem hx_all : ((List.range 16).all fun i => (List.range 16).all fun j => decide (hx (i : Nat) = hx (j : Nat) → i = j)) = true := by decide +kernel
theorem hx_sign : ((List.range 16).all fun i => decide (hx (i : Nat) ≠ 43 ∧ hx (i : Nat) ≠ 45 ∧ hx (i : Nat) ≠ 32)) = true := by decide +kernel
theorem nat16 {i : Int} (h : 0 ≤ i ∧ i < 16) : ∃ k : Nat, i = (k : Nat) ∧ k ∈ List.range 16 := ⟨i.toNat, by omega, List.mem_range.mpr (by omega)⟩
theorem hx_inj {i j : Int} (hi : 0 ≤ i ∧ i < 16) (hj : 0 ≤ j ∧ j < 16) (h : hx i = hx j) : i = j := by
  obtain ⟨a, rfl, ha⟩ := nat16 hi
  obtain ⟨b, rfl, hb⟩ := nat16 hj
  have q : hx (a : Nat) = hx (b : Nat) → a = b := of_decide_eq_true (p := hx (a : Nat) = hx (b : Nat) → a = b) (List.all_eq_true.mp (List.all_eq_true.mp hx_all a ha) b hb)
  rw [q h]
theorem hx_ne {i : Int} (hi : 0 ≤ i ∧ i < 16) : hx i ≠ 43 ∧ hx i ≠ 45 ∧ hx i ≠ 32 := by
  obtain ⟨a, rfl, ha⟩ := nat16 hi
  exact of_decide_eq_true (p := hx (a : Nat) ≠ 43 ∧ hx (a : Nat) ≠ 45 ∧ hx (a : Nat) ≠ 32) (List.all_eq_true.mp hx_sign a ha)
theorem hxs_inj : ∀ {fs gs : List Int}, (∀ i ∈ fs, 0 ≤ i ∧ i < 16) → (∀ i ∈ gs, 0 ≤ i ∧ i < 16) → fs.map hx = gs.map hx → fs = gs
  | [], [], _, _, _ => rfl
  | [], _ :: _, _, _, h => nomatch h
  | _ :: _, [], _, _, h => nomatch h
  | f :: fs, g :: gs, hf, hg, h => by
    rw [List.map_cons, List.map_cons, List.cons.injEq] at h
    rw [hx_inj (hf f (.head _)) (hg g (.head _)) h.1, hxs_inj (fun i hi => hf i (.tail _ hi)) (fun i hi => hg i (.tail _ hi)) h.2]
def signL (a : List Nat) : Prop := a = [] ∨ a = [43] ∨ a = [45] ∨ a = [32]
theorem sign_apart {a : List Nat} (ha : signL a) : a = [] ∨ (∃ c, a = [c] ∧ (c = 43 ∨ c = 45 ∨ c = 32)) := by
  rcases ha with h | h | h | h
  · exact .inl h
  · exact .inr ⟨_, h, by decide⟩
  · exact .inr ⟨_, h, by decide⟩
  · exact .inr ⟨_, h, by decide⟩
theorem apart_hx {c : Nat} {fs gs : List Int} (hc : c = 43 ∨ c = 45 ∨ c = 32) (hg : ∀ i ∈ gs, 0 ≤ i ∧ i < 16) : [c] ++ fs.map hx ≠ gs.map hx := by
  intro h
  cases gs with
  | nil => cases h
  | cons g gs =>
    have h1 := (List.cons.inj h).1
    have h2 := hx_ne (hg g (.head _))
    omega
theorem text_uniq {a a' : List Nat} {fs gs : List Int} (ha : signL a) (ha' : signL a') (hf : ∀ i ∈ fs, 0 ≤ i ∧ i < 16) (hg : ∀ i ∈ gs, 0 ≤ i ∧ i < 16) (h : a ++ fs.map hx = a' ++ gs.map hx) : a = a' ∧ fs = gs := by
  rcases sign_apart ha with rfl | ⟨c, rfl, hc⟩ <;> rcases sign_apart ha' with rfl | ⟨c', rfl, hc'⟩
  · exact ⟨rfl, hxs_inj hf hg h⟩
  · exact absurd h.symm (apart_hx hc' hf)
  · exact absurd h (apart_hx hc hg)
  · have h1 := List.cons.inj h
    exact ⟨by rw [h1.1], hxs_inj hf hg h1.2⟩
theorem sgN_sign {n : Int} {j : Nat} (hj : j < 4) : signL (if (decide (n < 0)) = true then [45] else sgN.getD j []) := by
  have h1 : j = 0 ∨ j = 1 ∨ j = 2 ∨ j = 3 := by omega
  split
  · exact .inr (.inr (.inl rfl))
  · rcases h1 with rfl | rfl | rfl | rfl
    · exact .inl rfl
    · exact .inr (.inl rfl)
    · exact .inl rfl
    · exact .inr (.inr (.inr rfl))
def frS (z n : Int) : Str := frontS n (sgS z)
def fiS (z n : Int) : List Int := figS n (bsS z) (sgS z) (wdS z)
theorem fi_bd {z n : Int} : ∀ i ∈ fiS z n, 0 ≤ i ∧ i < 16 := figs_bd (bs_bounds z).1 (bs_bounds z).2
theorem textZ {z n : Int} (hn : n.natAbs ≤ 4095) : textS z n = frS z n ++ figT (fiS z n) := by
  unfold textS frS fiS
  rw [text_eq (by have := bs_bounds z; omega) hn (sj_lt z) (wd_bounds z).2, bs_nat z]
  rfl
theorem fr_cps {z n : Int} : (frS z n).cps.toList = if (decide (n < 0)) = true then [45] else sgN.getD (sjS z) [] := front_cps (sj_lt z)
theorem textL {z n : Int} (hn : n.natAbs ≤ 4095) : (textS z n).cps.toList = (if (decide (n < 0)) = true then [45] else sgN.getD (sjS z) []) ++ (fiS z n).map hx := by
  rw [textZ hn, PySem.Str.cps_append, Array.toList_append, fr_cps]
  rfl
theorem text_iff {z n z' n' : Int} (hn : n.natAbs ≤ 4095) (hn' : n'.natAbs ≤ 4095) : textS z n = textS z' n' ↔ frS z n = frS z' n' ∧ fiS z n = fiS z' n' := by
  constructor
  · intro h
    have q := congrArg (fun x : Str => x.cps.toList) h
    rw [textL hn, textL hn'] at q
    have r := text_uniq (sgN_sign (sj_lt z)) (sgN_sign (sj_lt z')) fi_bd fi_bd q
    refine ⟨?_, r.2⟩
    refine PySem.Str.ext' (Array.toList_inj.mp ?_)
    rw [fr_cps, fr_cps]
    exact r.1
  · rintro ⟨h1, h2⟩
    rw [textZ hn, textZ hn', h1, h2]
theorem ints_eqv : ∀ fs gs : List Int, PyData.eqvAll (kqdPs (fs.map Dat.int)) (kqdPs (gs.map Dat.int)) = decide (fs = gs)
  | [], [] => rfl
  | [], _ :: _ => rfl
  | _ :: _, [] => rfl
  | f :: fs, g :: gs => by
    have h := ints_eqv fs gs
    simp only [List.map_cons, kqdPs, kqdP, PyData.eqvAll, PyData.eqv, h, List.cons.injEq, Bool.decide_and]
    rfl
theorem numl_eqv (z n z' n' : Int) : PyData.eqv (kqdP (numlS z n)) (kqdP (numlS z' n')) = decide (frS z n = frS z' n' ∧ fiS z n = fiS z' n') := by
  show (PyData.eqvAll (kqdPs [.str (frS z n), .list ((fiS z n).map Dat.int)]) (kqdPs [.str (frS z' n'), .list ((fiS z' n').map Dat.int)])) = _
  simp only [kqdPs, kqdP, PyData.eqvAll, PyData.eqv, ints_eqv, Bool.and_true, Bool.decide_and]
  rfl
theorem str_eqv (a b : Str) : PyData.eqv (kqdP (.str a)) (kqdP (.str b)) = (a == b) := rfl
def toldZ (z : Int) (ns : List Int) : List Dat := (numsS z ns).map fun n => .str (textS z n)
def shownZ (z : Int) (ns : List Int) : List Dat := (numsS z ns).map (numlS z)
def keptI (z : Int) (ns : List Int) (z' : Int) (ns' : List Int) (k : Nat) : Bool := !((kqdPs (shownZ z' ns')).any fun y => PyData.eqv y (kqdP (numlS z ((numsS z ns).getD k 0))))
theorem kept_texts {z n z' : Int} {ns' : List Int} (hn : n.natAbs ≤ 4095) : keptD (toldZ z' ns') (.str (textS z n)) = !((kqdPs (shownZ z' ns')).any fun y => PyData.eqv y (kqdP (numlS z n))) := by
  unfold keptD toldZ shownZ
  congr 1
  rw [kqdPs_map, kqdPs_map, List.map_map, List.map_map, List.any_map, List.any_map]
  apply Bool.eq_iff_iff.mpr
  simp only [List.any_eq_true, Function.comp]
  constructor
  · rintro ⟨o, h1, h2⟩
    refine ⟨o, h1, ?_⟩
    rw [str_eqv] at h2
    rw [numl_eqv]
    exact decide_eq_true ((text_iff (nums_le h1) hn).mp (eq_of_beq h2))
  · rintro ⟨o, h1, h2⟩
    refine ⟨o, h1, ?_⟩
    rw [numl_eqv] at h2
    rw [str_eqv]
    exact beq_iff_eq.mpr ((text_iff (nums_le h1) hn).mpr (of_decide_eq_true h2))
theorem due_told {z z' : Int} {ns ns' : List Int} : ((List.range (numsS z ns).length).filter (keptI z ns z' ns')).map (fun k => Dat.str (textS z ((numsS z ns).getD k 0))) = (toldZ z ns).filter (keptD (toldZ z' ns')) := by
  unfold keptI
  rw [due_eq (numsS z ns) 0 (fun n => !((kqdPs (shownZ z' ns')).any fun y => PyData.eqv y (kqdP (numlS z n)))) (fun n => Dat.str (textS z n))]
  show _ = ((numsS z ns).map fun n => Dat.str (textS z n)).filter _
  rw [List.filter_map]
  congr 1
  refine List.filter_congr fun n h => ?_
  exact (kept_texts (nums_le h)).symm
theorem hx_lt (i : Int) : hx i < 0x110000 := by
  have h := (Nat.digitChar i.toNat).valid
  unfold hx
  rcases h with h | h
  · exact Nat.lt_trans h (by decide)
  · exact h.2
theorem text_ok {z n : Int} (hn : n.natAbs ≤ 4095) : PyData.strOk (textS z n) = true := by
  unfold PyData.strOk
  rw [← Array.all_toList, List.all_eq_true]
  intro c hc
  rw [textL hn] at hc
  rcases List.mem_append.mp hc with hc | hc
  · rcases sgN_sign (n := n) (sj_lt z) with h | h | h | h <;> rw [h] at hc
    · cases hc
    · rw [List.mem_singleton.mp hc]; rfl
    · rw [List.mem_singleton.mp hc]; rfl
    · rw [List.mem_singleton.mp hc]; rfl
  · obtain ⟨i, _, rfl⟩ := List.mem_map.mp hc
    exact decide_eq_true (hx_lt i)
theorem fr_ok {z n : Int} : PyData.strOk (frS z n) = true := by
  unfold PyData.strOk
  rw [← Array.all_toList, List.all_eq_true]
  intro c hc
  rw [fr_cps] at hc
  rcases sgN_sign (n := n) (sj_lt z) with h | h | h | h <;> rw [h] at hc
  · cases hc
  · rw [List.mem_singleton.mp hc]; rfl
  · rw [List.mem_singleton.mp hc]; rfl
  · rw [List.mem_singleton.mp hc]; rfl
theorem told_ok {z : Int} {ns : List Int} : ∀ d ∈ toldZ z ns, okD 8 d = true := by
  intro d hd
  obtain ⟨n, hn, rfl⟩ := List.mem_map.mp hd
  exact text_ok (nums_le hn)
theorem told_flat {z : Int} {ns : List Int} : ∀ d ∈ toldZ z ns, flat d = true := by
  intro d hd
  obtain ⟨n, hn, rfl⟩ := List.mem_map.mp hd
  rfl
theorem ints_ok (fs : List Int) : okD 7 (.list (fs.map Dat.int)) = true := by
  simp only [okD, List.all_eq_true]
  intro d hd
  obtain ⟨i, _, rfl⟩ := List.mem_map.mp hd
  rfl
theorem numl_ok {z n : Int} : okD 8 (numlS z n) = true := by
  show ([.str (frS z n), .list ((fiS z n).map Dat.int)] : List Dat).all (okD 7) = true
  simp only [List.all_cons, List.all_nil, ints_ok, Bool.and_true]
  exact fr_ok
theorem shown_ok {z : Int} {ns : List Int} : ∀ d ∈ shownZ z ns, okD 8 d = true := by
  intro d hd
  obtain ⟨n, _, rfl⟩ := List.mem_map.mp hd
  exact numl_ok
theorem strs_self : ∀ ds : List Dat, (∀ d ∈ ds, ∃ x, d = .str x) → PyData.eqvAll (kqdPs ds) (kqdPs ds) = true
  | [], _ => rfl
  | d :: ds, h => by
    obtain ⟨x, rfl⟩ := h d (.head _)
    have q := strs_self ds fun e he => h e (.tail _ he)
    simp only [kqdPs, kqdP, PyData.eqvAll, PyData.eqv, q, beq_self_eq_true, Bool.and_self]
theorem told_str {z : Int} {ns : List Int} : ∀ d ∈ toldZ z ns, ∃ x, d = .str x := by
  intro d hd
  obtain ⟨n, _, rfl⟩ := List.mem_map.mp hd
  exact ⟨_, rfl⟩
theorem list_self {ds : List Dat} (h : ∀ d ∈ ds, ∃ x, d = .str x) : PyData.eqv (kqdP (.list ds)) (kqdP (.list ds)) = true := strs_self ds h
/-- what the law writes down for itself -/
theorem told_text {z : Int} {ns : List Int} : (numsS z ns).map (fun n => Dat.str (frS z n ++ figT (fiS z n))) = toldZ z ns := by
  refine List.map_congr_left fun n hn => ?_
  rw [textZ (nums_le hn)]
theorem chr_item {i : Int} (h : 0 ≤ i ∧ i < 16) : Txt.item (Str.ofString "0123456789abcdef") i = ⟨#[hx i]⟩ := by
  have key : ((List.range 16).all fun k => Txt.item (Str.ofString "0123456789abcdef") ((k : Nat) : Int) == (⟨#[hx (k : Nat)]⟩ : Str)) = true := by decide +kernel
  obtain ⟨a, rfl, ha⟩ := nat16 h
  exact eq_of_beq (List.all_eq_true.mp key a ha)
theorem join_chrs (fs : List Int) : Str.join ⟨#[]⟩ (fs.map fun i => (⟨#[hx i]⟩ : Str)) = figT fs := by
  have e : (fs.map fun i => (⟨#[hx i]⟩ : Str)) = signs (figT fs) := by
    show _ = List.map _ _
    unfold figT
    simp [List.map_map, Function.comp]
  rw [e]
  exact join_nil_signs _

theorem heads_pick {vs : List Value} {ns : List Int} (h : IntsAre vs ns) (a b : Tok) : ∃ z1 t1 z2 t2, (slicePick (vs ++ [Value.int 0 a, Value.int 0 b]).toArray none (some 2) none).toList = [Value.int z1 t1, Value.int z2 t2] := by
  have e : sliceBounds none (some 2) none (vs ++ [Value.int 0 a, Value.int 0 b]).toArray.size = (((0 : Nat) : Int), ((2 : Nat) : Int), 1) := by
    simp only [sliceBounds, Option.getD_none, show (1 : Int) > 0 by decide, if_true, show ¬ ((2 : Int) < 0) by decide, if_false, List.size_toArray, List.length_append, List.length_cons, List.length_nil]
    congr 2
    omega
  rw [kmk_pick_nat _ e]
  cases h with
  | nil => exact ⟨_, _, _, _, rfl⟩
  | cons n t h =>
    cases h with
    | nil => exact ⟨_, _, _, _, rfl⟩
    | cons n t h => exact ⟨_, _, _, _, rfl⟩
section
variable {prog : Program} {w : World} {A : Around} {E : Value → Shared → Prop} {s : Shared}
theorem item_chr {value slice : Expr} {t u : Tok} {i : Int} {Q : Value → Shared → Prop} (hi : 0 ≤ i ∧ i < 16) (h : ∀ tt k, Q (.str ⟨#[hx i]⟩ tt) { s with toks := k })
    (hs : subscripted slice false (.str (Str.ofString "0123456789abcdef") t) (.int i u) = operate [.str (Str.ofString "0123456789abcdef") t, .int i u] (getItem (.str (Str.ofString "0123456789abcdef") t) (.int i u)) := by with_unfolding_all rfl)
    (ht : ∀ r, letTemporaryGo value (.str (Str.ofString "0123456789abcdef") t) r = pure () := by intro _; with_unfolding_all rfl) :
    wpAny (model prog w) A (subscriptTail value slice (.str (Str.ofString "0123456789abcdef") t) (.int i u)) Q E s := by
  refine KXi.item (n := 16) (by decide +kernel) (by omega) (by omega) (by decide) (fun _ => ?_) hs ht
  rw [chr_item hi]
  exact h _ _
theorem chrs_are {L : List (Addr × Obj)} : ∀ {vs : List Value} {fs : List Int}, DatAll L vs (fs.map fun i => Dat.str ⟨#[hx i]⟩) → StrsAre vs (fs.map fun i => (⟨#[hx i]⟩ : Str))
  | [], [], _ => .nil
  | v :: vs, f :: fs, h => by
    cases h with
    | cons h1 h2 =>
      obtain ⟨t, rfl⟩ := invS h1
      exact .cons _ _ (chrs_are h2)
  | [], _ :: _, h => nomatch h
  | _ :: _, [], h => nomatch h
theorem join_chr {D : Addr} {vs : List Value} {k : Nat} {t : Tok} {L : List (Addr × Obj)} {h₀ : Heap} {La : Addr} {news : List (Addr × Obj)} {fs : List Int} {Q : Value → Shared → Prop} (N : News h₀ La s.heap news) (hm : (D, W.listOf vs.toArray k) ∈ news)
    (hD : DatAll L vs (fs.map fun i => Dat.str ⟨#[hx i]⟩)) (hl : fs.length ≤ 1000) (h : ∀ t' k, Q (.str (figT fs) t') { s with toks := k }) :
    wpAny (model prog w) A (call (.builtin "str.join") [.str (Str.ofString "") t, .ref D]) Q E s := by
  refine join_list (isL N hm) (chrs_are hD) ?_ fun t' k => ?_
  · rw [List.map_map, List.length_map]
    have e : (fs.map ((fun x : Str => x.length) ∘ fun i => (⟨#[hx i]⟩ : Str))).sum = fs.length := by
      clear hD hl h
      induction fs with
      | nil => rfl
      | cons f fs ih => rw [List.map_cons, List.sum_cons, ih, List.length_cons]; show 1 + fs.length = _; omega
    rw [e]
    have h0 : (Str.ofString "").length = 0 := by decide +kernel
    rw [h0]
    omega
  · have e : Txt.join (Str.ofString "") (fs.map fun i => (⟨#[hx i]⟩ : Str)) = figT fs := by
      rw [eq_of_beq (join_closes (show Str.ofString "" = (⟨#[]⟩ : Str) from by decide +kernel)), join_chrs]
    rw [e]
    exact h _ _
end
theorem fi_len {z n : Int} (hn : n.natAbs ≤ 4095) : (fiS z n).length ≤ 13 := by
  unfold fiS
  rw [← bs_nat z]
  exact fig_len (by have := bs_bounds z; omega) hn (wd_bounds z).2
theorem fr_len {z n : Int} : (frS z n).length ≤ 1 := front_le (spec_lens z).1
theorem figT_len (fs : List Int) : (figT fs).length = fs.length := by
  show ((fs.map hx).toArray).size = _
  simp
/-- between the turns of the first loop -/
def J1 (cs0 B : List (Addr × Obj)) (SD : Addr) (m : Str → Option Value) (led : List (Addr × Obj)) : Prop :=
  ∃ E, led = cs0 ++ (B ++ E) ∧ (∀ q ∈ cs0, ∀ p ∈ B ++ E, p.1 ≠ q.1) ∧ m (Str.ofString "sides") = some (.ref SD)
def P1 (B : List (Addr × Obj)) (v : Value) : Prop := ∃ z ns, ns.length ≤ 9 ∧ DatIn B v (sideD z ns)
theorem nums_len {z : Int} {ns : List Int} (h : ns.length ≤ 9) : (numsS z ns).length ≤ 10 := by
  unfold numsS
  rw [List.length_append, List.length_map]
  show _ + 1 ≤ 10
  omega
theorem told_okL {z : Int} {ns : List Int} : okD 8 (.list (toldZ z ns)) = true := by
  show (toldZ z ns).all (okD 7) = true
  rw [List.all_eq_true]
  intro d hd
  obtain ⟨n, hn, rfl⟩ := List.mem_map.mp hd
  exact text_ok (nums_le hn)
/-- between the turns of the second loop -/
def J2 (c : Addr) (B : List (Addr × Obj)) (SD : Addr) (m : Str → Option Value) (led : List (Addr × Obj)) : Prop :=
  ∃ (o1 o2 o3 : Obj) (v1 v2 v3 : Option Value), led = (c + 1, o1) :: (c + 1 + 1, o2) :: (c + 1 + 1 + 1, o3) :: B ∧ o1.data = .cell v1 ∧ o2.data = .cell v2 ∧ o3.data = .cell v3 ∧ m (Str.ofString "sides") = some (.ref SD)
def P2 (B : List (Addr × Obj)) (v : Value) : Prop := ∃ a b, DatIn B v (.tuple [.int a, .int b]) ∧ (a = 0 ∨ a = 1) ∧ (b = 0 ∨ b = 1)
theorem P1.mono {B B' : List (Addr × Obj)} {v : Value} (hs : ∀ p ∈ B, p ∈ B') (h : P1 B v) : P1 B' v := by
  obtain ⟨z, ns, hn, hv⟩ := h
  exact ⟨z, ns, hn, hv.mono hs⟩
section
variable {prog : Program} {w : World} {A : Around} {E : Value → Shared → Prop} {s : Shared} {h₀ : Heap} {L : Addr} {news B : List (Addr × Obj)}
theorem item_side {slice : Expr} {nm : Str} {ps : Pos} {SD : Addr} {r1 r2 : Value} {k : Nat} {a : Int} {u : Tok} {Q : Value → Shared → Prop} (N : News h₀ L s.heap news) (hm : (SD, W.listOf [r1, r2].toArray k) ∈ news) (h1 : P1 B r1) (h2 : P1 B r2) (ha : a = 0 ∨ a = 1) (h : ∀ v, P1 B v → Q v s)
    (hs : subscripted slice false (.ref SD) (.int a u) = operate [.ref SD, .int a u] (getItem (.ref SD) (.int a u)) := by with_unfolding_all rfl) :
    wpAny (model prog w) A (subscriptTail (.Name nm ps) slice (.ref SD) (.int a u)) Q E s := by
  have key : ∃ x, [r1, r2][a.toNat]? = some x ∧ P1 B x := by
    rcases ha with rfl | rfl
    · exact ⟨_, rfl, h1⟩
    · exact ⟨_, rfl, h2⟩
  obtain ⟨x, hx, hP⟩ := key
  exact item_list (x := x) (isL N hm) (by omega) (by omega) (by simpa using hx) (h x hP) hs
end
theorem filt_okL {z : Int} {ns : List Int} {q : Dat → Bool} : okD 8 (.list ((toldZ z ns).filter q)) = true := by
  show ((toldZ z ns).filter q).all (okD 7) = true
  rw [List.all_eq_true]
  intro d hd
  obtain ⟨n, hn, rfl⟩ := List.mem_map.mp (List.mem_filter.mp hd).1
  exact text_ok (nums_le hn)
theorem filt_str {z : Int} {ns : List Int} {q : Dat → Bool} : ∀ d ∈ (toldZ z ns).filter q, ∃ x, d = .str x := fun d hd => told_str d (List.mem_filter.mp hd).1
theorem told_len {z : Int} {ns : List Int} (h : ns.length ≤ 9) : (toldZ z ns).length ≤ 1000 := by
  unfold toldZ
  rw [List.length_map]
  have := nums_len (z := z) h
  omega

theorem law_holds : PySem.Challenge.rw_ij0164_02.Holds := hd (by
  k_fill
  w_top off
  intro w s₀ s₁ mg mb G Y fa o pm cd doc dV kV ho hd hcd hD hmg hg args vals as hpre hlay hrd hwl hlo
  have KX := kIn_of Y
  k_behind G ho hd hcd hD hmg hpre hlay hrd hwl hlo cd
  all_goals (try k_fold)
  rename_i scr svs sas hL0 ra0 w10 r00 hI hr0 hcond1 hcond2 K0 hh1 tk1 FF oc3 oc2 oc1 dc3 dc2 dc1 NN0 XX0
  obtain ⟨cs0, hcs0⟩ : ∃ c, c = [(s₁.heap.objs.size + 1 + 1 + 1, oc3), (s₁.heap.objs.size + 1 + 1, oc2), (s₁.heap.objs.size + 1, oc1)] := ⟨_, rfl⟩
  rw [← hcs0] at NN0
  k_with_none
  k_with "MineMem" => (first | (with_reducible assumption) | (with_reducible exact List.mem_cons_self) | ((with_reducible refine List.mem_append.mpr (Or.inl ?_)); walk_at "MineMem") | ((with_reducible refine List.mem_append.mpr (Or.inr ?_)); walk_at "MineMem") | ((with_reducible refine List.mem_cons_of_mem _ ?_); walk_at "MineMem"))
  k_with "eval ListComp" => ((k_here; k_dflt (refine LCg.ListComp_U (F₀ := by k_asm) (by with_unfolding_all rfl) (by decide) (by rfl) (by decide) (by rfl) ?_)))
  k_with "MineItem" => (first | exact DatIn.none | exact DatIn.bool _ | exact DatIn.int _ _ | exact DatIn.str _ _ | assumption | (refine DatIn.mono ?_ (by assumption); (intro p hp; (try simp only [List.mem_append, List.mem_cons] at hp ⊢); grind)))
  k_with "MineLt" => (first | assumption | exact allLt_of (by assumption) | tbn_find | (simp only [AllLt, and_true]; tbn_conj))
  k_with "MineTup" => ((refine DatIn.tuple (List.mem_append.mpr (Or.inr (List.Mem.head _))) ?_; repeat' (first | exact DatAll.nil | refine DatAll.cons ?_ ?_ | walk_at "MineItem")))
  k_with "TurnEnd" => ((refine TurnEnd.intro [(_, _)] (by assumption) (tl1 (by assumption)) (off1 (by walk_at "MineLt")) (by walk_at "MineTup")))
  k_with "MineSub" => (first | exact fun _ h => h | assumption | (intro p hp; first | (exact List.Mem.tail _ (by assumption)) | (simp only [List.mem_append, List.mem_cons, List.not_mem_nil, or_false] at hp ⊢; grind)))
  k_with "subscriptTail" => ((k_here; (with_reducible show wpAny _ _ (subscriptTail _ _ (Value.ref _) (Value.int _ _)) _ _ _); k_dflt (refine' item_tupleT ?mwt ?mwa ?mwb ?mwc ?mwd ?_; (case mwt => exact News.isTup (by k_asm) (by walk_at "MineMem")); (case mwa => decide); (case mwb => decide); (case mwc => rfl); (case mwd => rfl); k_whole)))
  k_with "MineRoom" => (first | assumption | ktr_room | (dsimp only [ktrTop, Around.deeper, Around.in1] at *; simp only [recursionLimit] at *; omega))
  k_with "MineUnits" => (first | ktr_units | (have hcL9 := cLine_is; dsimp only [ktrTop, Around.deeper, Around.in1] at *; omega))
  k_with "And" => (((with_reducible show WrapAt _ _ ∧ _); k_dflt (refine ⟨WrapAt.of (by k_asm) (by walk_at "MineMemD"), ?_⟩); (try dsimp only [List.nil_append, List.cons_append])))
  k_with "eval Name" => ((k_here; (with_reducible show wpAny _ _ (eval (Expr.Name _ _) (compEnvC _ _ _ _)) _ _ _); k_dflt (first | refine LCgL.ld_own (by k_asm) (by walk_at "MineMem") (by assumption) (by assumption) ?_ | refine LCgL.ld_global (by k_asm) (by k_asm) (by k_asm) (by k_is) ?_ | refine LCgL.ld_built (by k_asm) (by k_asm) (by k_asm) (by k_is) (by boot_by_name) (by decide) ?_)))
  k_with "MineMemD" => ((repeat' (first | assumption | exact List.mem_cons_self | (refine List.mem_cons_of_mem _ ?_) | (refine List.mem_append.mpr (Or.inl ?_)) | fail "MineMemD")))
  k_with "binaryOp Add ref ref" => (refine Hid.out ?_)
  k_steps
  unfold Hid
  rename Fr _ _ _ _ => F1
  rename News _ _ _ _ => N1
  refine add_arr (vs := svs) (ws := [_, _]) F1 N1 (by obtain ⟨oo, q1, q2, q3⟩ := hL0; exact ⟨oo, F1.keep _ _ q1, q2, q3⟩) (isL N1 (.head _)) (by have q := IntsAre.length hI; omega) (by show 2 ≤ 1000; decide) ?_
  intro S1 h2 F2 N2 l2
  clear F1 N1
  dsimp only
  obtain ⟨z1, t1, z2, t2, hpk0⟩ := heads_pick hI tk1 (tk1 + 1)
  have hsz0 : (svs ++ [Value.int 0 tk1, Value.int 0 (tk1 + 1)]).toArray.size ≤ sizeLine := by
    have q := IntsAre.length hI
    rw [List.size_toArray, List.length_append, sizeLine_eq]
    show svs.length + 2 ≤ _
    omega
  k_with_none
  k_with "MineMem" => (first | (with_reducible assumption) | (with_reducible exact List.mem_cons_self) | ((with_reducible refine List.mem_append.mpr (Or.inl ?_)); walk_at "MineMem") | ((with_reducible refine List.mem_append.mpr (Or.inr ?_)); walk_at "MineMem") | ((with_reducible refine List.mem_cons_of_mem _ ?_); walk_at "MineMem"))
  k_with "eval ListComp" => ((k_here; k_dflt (refine LCg.ListComp_U (F₀ := by k_asm) (by with_unfolding_all rfl) (by decide) (by rfl) (by decide) (by rfl) ?_)))
  k_with "MineItem" => (first | exact DatIn.none | exact DatIn.bool _ | exact DatIn.int _ _ | exact DatIn.str _ _ | assumption | (refine DatIn.mono ?_ (by assumption); (intro p hp; (try simp only [List.mem_append, List.mem_cons] at hp ⊢); grind)))
  k_with "MineLt" => (first | assumption | exact allLt_of (by assumption) | tbn_find | (simp only [AllLt, and_true]; tbn_conj))
  k_with "MineTup" => ((refine DatIn.tuple (List.mem_append.mpr (Or.inr (List.Mem.head _))) ?_; repeat' (first | exact DatAll.nil | refine DatAll.cons ?_ ?_ | walk_at "MineItem")))
  k_with "TurnEnd" => ((refine TurnEnd.intro [(_, _)] (by assumption) (tl1 (by assumption)) (off1 (by walk_at "MineLt")) (by walk_at "MineTup")))
  k_with "MineSub" => (first | exact fun _ h => h | assumption | (intro p hp; first | (exact List.Mem.tail _ (by assumption)) | (simp only [List.mem_append, List.mem_cons, List.not_mem_nil, or_false] at hp ⊢; grind)))
  k_with "subscriptTail" => ((k_here; (with_reducible show wpAny _ _ (subscriptTail _ _ (Value.ref _) (Value.int _ _)) _ _ _); k_dflt (refine' item_tupleT ?mwt ?mwa ?mwb ?mwc ?mwd ?_; (case mwt => exact News.isTup (by k_asm) (by walk_at "MineMem")); (case mwa => decide); (case mwb => decide); (case mwc => rfl); (case mwd => rfl); k_whole)))
  k_with "MineRoom" => (first | assumption | ktr_room | (dsimp only [ktrTop, Around.deeper, Around.in1] at *; simp only [recursionLimit] at *; omega))
  k_with "MineUnits" => (first | ktr_units | (have hcL9 := cLine_is; dsimp only [ktrTop, Around.deeper, Around.in1] at *; omega))
  k_with "And" => (((with_reducible show WrapAt _ _ ∧ _); k_dflt (refine ⟨WrapAt.of (by k_asm) (by walk_at "MineMemD"), ?_⟩); (try dsimp only [List.nil_append, List.cons_append])))
  k_with "eval Name" => ((k_here; (with_reducible show wpAny _ _ (eval (Expr.Name _ _) (compEnvC _ _ _ _)) _ _ _); k_dflt (first | refine LCgL.ld_own (by k_asm) (by walk_at "MineMem") (by assumption) (by assumption) ?_ | refine LCgL.ld_global (by k_asm) (by k_asm) (by k_asm) (by k_is) ?_ | refine LCgL.ld_built (by k_asm) (by k_asm) (by k_asm) (by k_is) (by boot_by_name) (by decide) ?_)))
  k_with "MineMemD" => ((repeat' (first | assumption | exact List.mem_cons_self | (refine List.mem_cons_of_mem _ ?_) | (refine List.mem_append.mpr (Or.inl ?_)) | fail "MineMemD")))
  k_with "subscriptTail" => ((with_reducible show wpAny _ _ (subscriptTail _ (PySem.Expr.Slice _ _ none _) (Value.ref _) (Value.ref _)) _ _ _); k_dflt (refine kba_turn (value' := PySem.Expr.Name (PySem.Str.ofString "_") ⟨0, 0, 0, 0⟩) (fun _ => rfl) ?_; refine' kmk_slice_lit ?zF1 ?zN1 ?zl1 ?zp1 ?zq1 ?ze1 ?_ ?zs1 ?zt1 ?zz1; (case zF1 => k_asm); (case zN1 => k_asm); (case zl1 => kmk_list); (case zp1 => kmk_part); (case zq1 => kmk_part); (case ze1 => exact hpk0); (case zs1 => with_unfolding_all rfl); (case zt1 => kmk_pure); (case zz1 => exact hsz0)); intro S3 h3 F3 N3 l3)
  k_with "storeName" => (refine Hid.out ?_)
  k_steps
  unfold Hid
  obtain ⟨E0, hE0⟩ : ∃ e : List (Addr × Obj), e = [(S3, W.listOf #[.int z1 t1, .int z2 t2] 0)] := ⟨_, rfl⟩
  have offE0 : ∀ q ∈ cs0, ∀ p ∈ E0, p.1 ≠ q.1 := by
    intro q hq p hp
    rw [hE0] at hp
    rw [List.mem_singleton.mp hp]
    exact Nat.ne_of_gt (l3 q (.tail _ (.tail _ hq)))
  have N3' : News s₁.heap s₁.heap.objs.size h3 (cs0 ++ E0) := newsIn N3 (by
    subst hE0
    intro p hp
    rcases List.mem_append.mp hp with hp | hp
    · exact .tail _ (.tail _ (.tail _ hp))
    · rw [List.mem_singleton.mp hp]; exact .head _)
  have hS3 : (S3, W.listOf [Value.int z1 t1, Value.int z2 t2].toArray 0) ∈ E0 := by rw [hE0]; exact .head _
  clear N2 N3 l2 l3 hE0 hsz0 hpk0 F2
  dsimp only
  k_with_none
  k_with "MineMem" => (first | (with_reducible assumption) | (with_reducible exact List.mem_cons_self) | ((with_reducible refine List.mem_append.mpr (Or.inl ?_)); walk_at "MineMem") | ((with_reducible refine List.mem_append.mpr (Or.inr ?_)); walk_at "MineMem") | ((with_reducible refine List.mem_cons_of_mem _ ?_); walk_at "MineMem"))
  k_with "eval ListComp" => ((k_here; k_dflt (refine LCg.ListComp_U (F₀ := by k_asm) (by with_unfolding_all rfl) (by decide) (by rfl) (by decide) (by rfl) ?_)))
  k_with "MineItem" => (first | exact DatIn.none | exact DatIn.bool _ | exact DatIn.int _ _ | exact DatIn.str _ _ | assumption | (refine DatIn.mono ?_ (by assumption); (intro p hp; (try simp only [List.mem_append, List.mem_cons] at hp ⊢); grind)))
  k_with "MineLt" => (first | assumption | exact allLt_of (by assumption) | tbn_find | (simp only [AllLt, and_true]; tbn_conj))
  k_with "MineTup" => ((refine DatIn.tuple (List.mem_append.mpr (Or.inr (List.Mem.head _))) ?_; repeat' (first | exact DatAll.nil | refine DatAll.cons ?_ ?_ | walk_at "MineItem")))
  k_with "TurnEnd" => ((refine TurnEnd.intro [(_, _)] (by assumption) (tl1 (by assumption)) (off1 (by walk_at "MineLt")) (by walk_at "MineTup")))
  k_with "MineSub" => (first | exact fun _ h => h | assumption | (intro p hp; first | (exact List.Mem.tail _ (by assumption)) | (simp only [List.mem_append, List.mem_cons, List.not_mem_nil, or_false] at hp ⊢; grind)))
  k_with "subscriptTail" => ((k_here; (with_reducible show wpAny _ _ (subscriptTail _ _ (Value.ref _) (Value.int _ _)) _ _ _); k_dflt (refine' item_tupleT ?mwt ?mwa ?mwb ?mwc ?mwd ?_; (case mwt => exact News.isTup (by k_asm) (by walk_at "MineMem")); (case mwa => decide); (case mwb => decide); (case mwc => rfl); (case mwd => rfl); k_whole)))
  k_with "MineRoom" => (first | assumption | ktr_room | (dsimp only [ktrTop, Around.deeper, Around.in1] at *; simp only [recursionLimit] at *; omega))
  k_with "MineUnits" => (first | ktr_units | (have hcL9 := cLine_is; dsimp only [ktrTop, Around.deeper, Around.in1] at *; omega))
  k_with "And" => (((with_reducible show WrapAt _ _ ∧ _); k_dflt (refine ⟨WrapAt.of (by k_asm) (by walk_at "MineMemD"), ?_⟩); (try dsimp only [List.nil_append, List.cons_append])))
  k_with "eval Name" => ((k_here; (with_reducible show wpAny _ _ (eval (Expr.Name _ _) (compEnvC _ _ _ _)) _ _ _); k_dflt (first | refine LCgL.ld_own (by k_asm) (by walk_at "MineMem") (by assumption) (by assumption) ?_ | refine LCgL.ld_global (by k_asm) (by k_asm) (by k_asm) (by k_is) ?_ | refine LCgL.ld_built (by k_asm) (by k_asm) (by k_asm) (by k_is) (by boot_by_name) (by decide) ?_)))
  k_with "MineMemD" => ((repeat' (first | assumption | exact List.mem_cons_self | (refine List.mem_cons_of_mem _ ?_) | (refine List.mem_append.mpr (Or.inl ?_)) | fail "MineMemD")))
  k_with "subscriptTail Name Slice ref ref" => ((with_reducible show wpAny _ _ (subscriptTail _ (PySem.Expr.Slice _ _ (some _) _) (Value.ref _) (Value.ref _)) _ _ _); k_dflt (refine' kmk_slice3_lit ?zF1 ?zN1 ?zl1 ?zp1 ?zq1 ?zk1 ?zo1 ?ze1 ?_ ?zs1 ?zt1 ?zz1; (case zF1 => k_asm); (case zN1 => k_asm); (case zl1 => kmk_list); (case zp1 => kmk_part); (case zq1 => kmk_part); (case zk1 => kmk_part); (case zo1 => decide); (case ze1 => exact rfl); (case zs1 => with_unfolding_all rfl); (case zt1 => kmk_pure); (case zz1 => kmk_size)); intro D' h' F' N' l4; generalize hpk : Array.toList (slicePick _ _ _ _) = pk at N')
  k_with "subscriptTail Name Constant ref int" => (refine Hid.out ?_)
  k_with "call ref" => (refine Hid.out ?_)
  k_steps
  unfold Hid
  rename News _ _ _ _ => N4
  refine item_list (x := .int z1 t1) (isL N4 (List.mem_append.mpr (.inr hS3))) (by decide) (by decide) rfl ?_
  k_steps
  unfold Hid
  obtain ⟨ms1, hms1, hml1⟩ := slice_ints hI 2
  rw [hpk] at hms1
  clear hpk
  refine' tel_use (sub := [(D', W.listOf pk.toArray 0)]) (side_tel z1 ms1 hml1) (by k_asm) (by k_asm) (by k_asm) (by k_asm) (by k_asm) (by first | exact rfl | assumption) (fun p hp => by rw [List.mem_singleton.mp hp]; exact .head _) (.cons (.int _ _) (.cons (DatIn.list (.head _) (datAll_ints hms1)) .nil)) (by walk_at "MineRoom") (by walk_at "MineUnits") ?_
  intro r1 er1 h5 tk5 F5 N5 or1 Dr1
  obtain ⟨E1, hE1⟩ : ∃ e : List (Addr × Obj), e = E0 ++ (D', W.listOf pk.toArray 0) :: er1 := ⟨_, rfl⟩
  have offE1 : ∀ q ∈ cs0, ∀ p ∈ E1, p.1 ≠ q.1 := by
    intro q hq p hp
    rw [hE1] at hp
    rcases List.mem_append.mp hp with hp | hp
    · exact offE0 q hq p hp
    rcases List.mem_cons.mp hp with rfl | hp
    · exact Nat.ne_of_gt (l4 q (List.mem_append.mpr (.inl hq)))
    · exact or1 q (.tail _ (List.mem_append.mpr (.inl hq))) p hp
  have N5' : News s₁.heap s₁.heap.objs.size h5 (cs0 ++ E1) := newsIn N5 (by
    subst hE1
    intro p hp
    simp only [List.mem_append, List.mem_cons] at hp ⊢
    grind)
  have Dr1' : DatIn E1 r1 (sideD z1 ms1) := Dr1.mono (by
    subst hE1
    intro p hp
    simp only [List.mem_append, List.mem_cons, List.not_mem_nil, or_false] at hp ⊢
    grind)
  have hup1 : ∀ p ∈ E0, p ∈ E1 := fun p hp => by rw [hE1]; exact List.mem_append.mpr (.inl hp)
  clear N5 or1 Dr1 l4 hE1 N' F'
  dsimp only
  k_with_none
  k_with "MineMem" => (first | (with_reducible assumption) | (with_reducible exact List.mem_cons_self) | ((with_reducible refine List.mem_append.mpr (Or.inl ?_)); walk_at "MineMem") | ((with_reducible refine List.mem_append.mpr (Or.inr ?_)); walk_at "MineMem") | ((with_reducible refine List.mem_cons_of_mem _ ?_); walk_at "MineMem"))
  k_with "eval ListComp" => ((k_here; k_dflt (refine LCg.ListComp_U (F₀ := by k_asm) (by with_unfolding_all rfl) (by decide) (by rfl) (by decide) (by rfl) ?_)))
  k_with "MineItem" => (first | exact DatIn.none | exact DatIn.bool _ | exact DatIn.int _ _ | exact DatIn.str _ _ | assumption | (refine DatIn.mono ?_ (by assumption); (intro p hp; (try simp only [List.mem_append, List.mem_cons] at hp ⊢); grind)))
  k_with "MineLt" => (first | assumption | exact allLt_of (by assumption) | tbn_find | (simp only [AllLt, and_true]; tbn_conj))
  k_with "MineTup" => ((refine DatIn.tuple (List.mem_append.mpr (Or.inr (List.Mem.head _))) ?_; repeat' (first | exact DatAll.nil | refine DatAll.cons ?_ ?_ | walk_at "MineItem")))
  k_with "TurnEnd" => ((refine TurnEnd.intro [(_, _)] (by assumption) (tl1 (by assumption)) (off1 (by walk_at "MineLt")) (by walk_at "MineTup")))
  k_with "MineSub" => (first | exact fun _ h => h | assumption | (intro p hp; first | (exact List.Mem.tail _ (by assumption)) | (simp only [List.mem_append, List.mem_cons, List.not_mem_nil, or_false] at hp ⊢; grind)))
  k_with "subscriptTail" => ((k_here; (with_reducible show wpAny _ _ (subscriptTail _ _ (Value.ref _) (Value.int _ _)) _ _ _); k_dflt (refine' item_tupleT ?mwt ?mwa ?mwb ?mwc ?mwd ?_; (case mwt => exact News.isTup (by k_asm) (by walk_at "MineMem")); (case mwa => decide); (case mwb => decide); (case mwc => rfl); (case mwd => rfl); k_whole)))
  k_with "MineRoom" => (first | assumption | ktr_room | (dsimp only [ktrTop, Around.deeper, Around.in1] at *; simp only [recursionLimit] at *; omega))
  k_with "MineUnits" => (first | ktr_units | (have hcL9 := cLine_is; dsimp only [ktrTop, Around.deeper, Around.in1] at *; omega))
  k_with "And" => (((with_reducible show WrapAt _ _ ∧ _); k_dflt (refine ⟨WrapAt.of (by k_asm) (by walk_at "MineMemD"), ?_⟩); (try dsimp only [List.nil_append, List.cons_append])))
  k_with "eval Name" => ((k_here; (with_reducible show wpAny _ _ (eval (Expr.Name _ _) (compEnvC _ _ _ _)) _ _ _); k_dflt (first | refine LCgL.ld_own (by k_asm) (by walk_at "MineMem") (by assumption) (by assumption) ?_ | refine LCgL.ld_global (by k_asm) (by k_asm) (by k_asm) (by k_is) ?_ | refine LCgL.ld_built (by k_asm) (by k_asm) (by k_asm) (by k_is) (by boot_by_name) (by decide) ?_)))
  k_with "MineMemD" => ((repeat' (first | assumption | exact List.mem_cons_self | (refine List.mem_cons_of_mem _ ?_) | (refine List.mem_append.mpr (Or.inl ?_)) | fail "MineMemD")))
  k_with "subscriptTail Name Slice ref ref" => ((with_reducible show wpAny _ _ (subscriptTail _ (PySem.Expr.Slice _ _ (some _) _) (Value.ref _) (Value.ref _)) _ _ _); k_dflt (refine' kmk_slice3_lit ?zF2 ?zN2 ?zl2 ?zp2 ?zq2 ?zk2 ?zo2 ?ze2 ?_ ?zs2 ?zt2 ?zz2; (case zF2 => k_asm); (case zN2 => k_asm); (case zl2 => kmk_list); (case zp2 => kmk_part); (case zq2 => kmk_part); (case zk2 => kmk_part); (case zo2 => decide); (case ze2 => exact rfl); (case zs2 => with_unfolding_all rfl); (case zt2 => kmk_pure); (case zz2 => kmk_size)); intro D' h' F' N' l4; generalize hpk : Array.toList (slicePick _ _ _ _) = pk at N')
  k_with "subscriptTail Name Constant ref int" => (refine Hid.out ?_)
  k_with "call ref" => (refine Hid.out ?_)
  k_steps
  unfold Hid
  rename News _ _ _ _ => N6x
  refine item_list (x := .int z2 t2) (isL N6x (List.mem_append.mpr (.inr (hup1 _ hS3)))) (by decide) (by decide) rfl ?_
  k_steps
  unfold Hid
  obtain ⟨ms2, hms2, hml2⟩ := slice_ints hI 3
  rw [hpk] at hms2
  clear hpk
  refine' tel_use (sub := [(D', W.listOf pk.toArray 0)]) (side_tel z2 ms2 hml2) (by k_asm) (by k_asm) (by k_asm) (by k_asm) (by k_asm) (by first | exact rfl | assumption) (fun p hp => by rw [List.mem_singleton.mp hp]; exact .head _) (.cons (.int _ _) (.cons (DatIn.list (.head _) (datAll_ints hms2)) .nil)) (by walk_at "MineRoom") (by walk_at "MineUnits") ?_
  intro r2 er2 h6 tk6 F6 N6 or2 Dr2
  obtain ⟨E2, hE2⟩ : ∃ e : List (Addr × Obj), e = E1 ++ (D', W.listOf pk.toArray 0) :: er2 := ⟨_, rfl⟩
  have offE2 : ∀ q ∈ cs0, ∀ p ∈ E2, p.1 ≠ q.1 := by
    intro q hq p hp
    rw [hE2] at hp
    rcases List.mem_append.mp hp with hp | hp
    · exact offE1 q hq p hp
    rcases List.mem_cons.mp hp with rfl | hp
    · exact Nat.ne_of_gt (l4 q (List.mem_append.mpr (.inl hq)))
    · exact or2 q (.tail _ (List.mem_append.mpr (.inl hq))) p hp
  have N6' : News s₁.heap s₁.heap.objs.size h6 (cs0 ++ E2) := newsIn N6 (by
    subst hE2
    intro p hp
    simp only [List.mem_append, List.mem_cons] at hp ⊢
    grind)
  have Dr2' : DatIn E2 r2 (sideD z2 ms2) := Dr2.mono (by
    subst hE2
    intro p hp
    simp only [List.mem_append, List.mem_cons, List.not_mem_nil, or_false] at hp ⊢
    grind)
  have hup2 : ∀ p ∈ E1, p ∈ E2 := fun p hp => by rw [hE2]; exact List.mem_append.mpr (.inl hp)
  clear N6 or2 Dr2 l4 hE2 N' F'
  dsimp only
  k_with_none
  k_with "MineMem" => (first | (with_reducible assumption) | (with_reducible exact List.mem_cons_self) | ((with_reducible refine List.mem_append.mpr (Or.inl ?_)); walk_at "MineMem") | ((with_reducible refine List.mem_append.mpr (Or.inr ?_)); walk_at "MineMem") | ((with_reducible refine List.mem_cons_of_mem _ ?_); walk_at "MineMem"))
  k_with "eval ListComp" => ((k_here; k_dflt (refine LCg.ListComp_U (F₀ := by k_asm) (by with_unfolding_all rfl) (by decide) (by rfl) (by decide) (by rfl) ?_)))
  k_with "MineItem" => (first | exact DatIn.none | exact DatIn.bool _ | exact DatIn.int _ _ | exact DatIn.str _ _ | assumption | (refine DatIn.mono ?_ (by assumption); (intro p hp; (try simp only [List.mem_append, List.mem_cons] at hp ⊢); grind)))
  k_with "MineLt" => (first | assumption | exact allLt_of (by assumption) | tbn_find | (simp only [AllLt, and_true]; tbn_conj))
  k_with "MineTup" => ((refine DatIn.tuple (List.mem_append.mpr (Or.inr (List.Mem.head _))) ?_; repeat' (first | exact DatAll.nil | refine DatAll.cons ?_ ?_ | walk_at "MineItem")))
  k_with "TurnEnd" => ((refine TurnEnd.intro [(_, _)] (by assumption) (tl1 (by assumption)) (off1 (by walk_at "MineLt")) (by walk_at "MineTup")))
  k_with "MineSub" => (first | exact fun _ h => h | assumption | (intro p hp; first | (exact List.Mem.tail _ (by assumption)) | (simp only [List.mem_append, List.mem_cons, List.not_mem_nil, or_false] at hp ⊢; grind)))
  k_with "subscriptTail" => ((k_here; (with_reducible show wpAny _ _ (subscriptTail _ _ (Value.ref _) (Value.int _ _)) _ _ _); k_dflt (refine' item_tupleT ?mwt ?mwa ?mwb ?mwc ?mwd ?_; (case mwt => exact News.isTup (by k_asm) (by walk_at "MineMem")); (case mwa => decide); (case mwb => decide); (case mwc => rfl); (case mwd => rfl); k_whole)))
  k_with "MineRoom" => (first | assumption | ktr_room | (dsimp only [ktrTop, Around.deeper, Around.in1] at *; simp only [recursionLimit] at *; omega))
  k_with "MineUnits" => (first | ktr_units | (have hcL9 := cLine_is; dsimp only [ktrTop, Around.deeper, Around.in1] at *; omega))
  k_with "And" => (((with_reducible show WrapAt _ _ ∧ _); k_dflt (refine ⟨WrapAt.of (by k_asm) (by walk_at "MineMemD"), ?_⟩); (try dsimp only [List.nil_append, List.cons_append])))
  k_with "eval Name" => ((k_here; (with_reducible show wpAny _ _ (eval (Expr.Name _ _) (compEnvC _ _ _ _)) _ _ _); k_dflt (first | refine LCgL.ld_own (by k_asm) (by walk_at "MineMem") (by assumption) (by assumption) ?_ | refine LCgL.ld_global (by k_asm) (by k_asm) (by k_asm) (by k_is) ?_ | refine LCgL.ld_built (by k_asm) (by k_asm) (by k_asm) (by k_is) (by boot_by_name) (by decide) ?_)))
  k_with "MineMemD" => ((repeat' (first | assumption | exact List.mem_cons_self | (refine List.mem_cons_of_mem _ ?_) | (refine List.mem_append.mpr (Or.inl ?_)) | fail "MineMemD")))
  k_with "exec For" => (refine Hid.out ?_)
  k_steps
  rename_i SD hx7 l7 h7 F7 N7
  unfold Hid
  obtain ⟨B, hB⟩ : ∃ b : List (Addr × Obj), b = (SD, W.listOf [r1, r2].toArray 0) :: E2 := ⟨_, rfl⟩
  have offB : ∀ q ∈ cs0, ∀ p ∈ B ++ [], p.1 ≠ q.1 := by
    intro q hq p hp
    rw [List.append_nil, hB] at hp
    rcases List.mem_cons.mp hp with rfl | hp
    · exact Nat.ne_of_gt (l7 q (List.mem_append.mpr (.inl hq)))
    · exact offE2 q hq p hp
  have N8 : News s₁.heap s₁.heap.objs.size h7 (cs0 ++ (B ++ [])) := newsIn N7 (by
    subst hB
    intro p hp
    simp only [List.mem_append, List.mem_cons, List.not_mem_nil, or_false] at hp ⊢
    grind)
  have hSD : (SD, W.listOf [r1, r2].toArray 0) ∈ B := by rw [hB]; exact .head _
  have DB1 : P1 B r1 := ⟨z1, ms1, hml1, Dr1'.mono (fun p hp => by rw [hB]; exact .tail _ (hup2 p hp))⟩
  have DB2 : P1 B r2 := ⟨z2, ms2, hml2, Dr2'.mono (fun p hp => by rw [hB]; exact .tail _ hp)⟩
  have hPs : ∀ v ∈ [r1, r2], P1 B v := by
    intro v hv
    rcases List.mem_cons.mp hv with rfl | hv
    · exact DB1
    · rw [List.mem_singleton.mp hv]; exact DB2
  clear N7 offE2 offE1 offE0 hup1 hup2 Dr1' Dr2' l7 hS3 hB N4 N6x N6'
  refine seq_for F7 rfl ?_
  k_with_none
  k_with "MineMem" => (first | (with_reducible assumption) | (with_reducible exact List.mem_cons_self) | ((with_reducible refine List.mem_append.mpr (Or.inl ?_)); walk_at "MineMem") | ((with_reducible refine List.mem_append.mpr (Or.inr ?_)); walk_at "MineMem") | ((with_reducible refine List.mem_cons_of_mem _ ?_); walk_at "MineMem"))
  k_with "eval ListComp" => ((k_here; k_dflt (refine LCg.ListComp_U (F₀ := by k_asm) (by with_unfolding_all rfl) (by decide) (by rfl) (by decide) (by rfl) ?_)))
  k_with "MineItem" => (first | exact DatIn.none | exact DatIn.bool _ | exact DatIn.int _ _ | exact DatIn.str _ _ | assumption | (refine DatIn.mono ?_ (by assumption); (intro p hp; (try simp only [List.mem_append, List.mem_cons] at hp ⊢); grind)))
  k_with "MineLt" => (first | assumption | exact allLt_of (by assumption) | tbn_find | (simp only [AllLt, and_true]; tbn_conj))
  k_with "MineTup" => ((refine DatIn.tuple (List.mem_append.mpr (Or.inr (List.Mem.head _))) ?_; repeat' (first | exact DatAll.nil | refine DatAll.cons ?_ ?_ | walk_at "MineItem")))
  k_with "TurnEnd" => ((refine TurnEnd.intro [(_, _)] (by assumption) (tl1 (by assumption)) (off1 (by walk_at "MineLt")) (by walk_at "MineTup")))
  k_with "MineSub" => (first | exact fun _ h => h | assumption | (intro p hp; first | (exact List.Mem.tail _ (by assumption)) | (simp only [List.mem_append, List.mem_cons, List.not_mem_nil, or_false] at hp ⊢; grind)))
  k_with "subscriptTail" => ((k_here; (with_reducible show wpAny _ _ (subscriptTail _ _ (Value.ref _) (Value.int _ _)) _ _ _); k_dflt (refine' item_tupleT ?mwt ?mwa ?mwb ?mwc ?mwd ?_; (case mwt => exact News.isTup (by k_asm) (by walk_at "MineMem")); (case mwa => decide); (case mwb => decide); (case mwc => rfl); (case mwd => rfl); k_whole)))
  k_with "MineRoom" => (first | assumption | ktr_room | (dsimp only [ktrTop, Around.deeper, Around.in1] at *; simp only [recursionLimit] at *; omega))
  k_with "MineUnits" => (first | ktr_units | (have hcL9 := cLine_is; dsimp only [ktrTop, Around.deeper, Around.in1] at *; omega))
  k_with "And" => (((with_reducible show WrapAt _ _ ∧ _); k_dflt (refine ⟨WrapAt.of (by k_asm) (by walk_at "MineMemD"), ?_⟩); (try dsimp only [List.nil_append, List.cons_append])))
  k_with "eval Name" => ((k_here; (with_reducible show wpAny _ _ (eval (Expr.Name _ _) (compEnvC _ _ _ _)) _ _ _); k_dflt (first | refine LCgL.ld_own (by k_asm) (by walk_at "MineMem") (by assumption) (by assumption) ?_ | refine LCgL.ld_global (by k_asm) (by k_asm) (by k_asm) (by k_is) ?_ | refine LCgL.ld_built (by k_asm) (by k_asm) (by k_asm) (by k_is) (by boot_by_name) (by decide) ?_)))
  k_with "MineMemD" => ((repeat' (first | assumption | exact List.mem_cons_self | (refine List.mem_cons_of_mem _ ?_) | (refine List.mem_append.mpr (Or.inl ?_)) | fail "MineMemD")))
  k_steps
  refine ⟨false, SD, [r1, r2], 0, _, _, cs0 ++ (B ++ []), rfl, rfl, rfl, F7, N8, List.mem_append.mpr (.inr (List.mem_append.mpr (.inl hSD))), ?_⟩
  refine seq_inv (J := J1 cs0 B SD) (P := P1 B) ?turn1 ?last1 _ _ _ _ hPs ⟨[], rfl, offB, by rfl⟩ (List.mem_append.mpr (.inr (List.mem_append.mpr (.inl hSD))))
  case' turn1 =>
    clear F7 N8
    intro v i I oI h tk m led hPv hJ hl hI9 F N off
    obtain ⟨z, ns, hn, hv⟩ := hPv
    obtain ⟨E9, rfl, offE, hms⟩ := hJ
    obtain ⟨ta, v₁, v₂, nt, rfl, hmT, hA, hBt⟩ := invT2 hv
    obtain ⟨xa, xv, xn, rfl, hmA, hDA⟩ := invL hA
    obtain ⟨na, nv, nn, rfl, hmB, hDB⟩ := invL hBt
    have hBl : ∀ p ∈ B, p ∈ (I, oI) :: (cs0 ++ (B ++ E9)) := fun p hp => .tail _ (List.mem_append.mpr (.inr (List.mem_append.mpr (.inl hp))))
    refine unpackN_ (items := #[.ref xa, .ref na]) F N (N.isTup (hBl _ hmT)) rfl rfl rfl ?_
    intro h11 F11 N11
    clear F N
    k_with_none
    k_with "MineMem" => (first | (with_reducible assumption) | (with_reducible exact List.mem_cons_self) | ((with_reducible refine List.mem_append.mpr (Or.inl ?_)); walk_at "MineMem") | ((with_reducible refine List.mem_append.mpr (Or.inr ?_)); walk_at "MineMem") | ((with_reducible refine List.mem_cons_of_mem _ ?_); walk_at "MineMem"))
    k_with "eval ListComp" => ((k_here; k_dflt (refine LCg.ListComp_U (F₀ := by k_asm) (by with_unfolding_all rfl) (by decide) (by rfl) (by decide) (by rfl) ?_)))
    k_with "MineItem" => (first | exact DatIn.none | exact DatIn.bool _ | exact DatIn.int _ _ | exact DatIn.str _ _ | assumption | (refine DatIn.mono ?_ (by assumption); (intro p hp; (try simp only [List.mem_append, List.mem_cons] at hp ⊢); grind)))
    k_with "MineLt" => (first | assumption | exact allLt_of (by assumption) | tbn_find | (simp only [AllLt, and_true]; tbn_conj))
    k_with "MineTup" => ((refine DatIn.tuple (List.mem_append.mpr (Or.inr (List.Mem.head _))) ?_; repeat' (first | exact DatAll.nil | refine DatAll.cons ?_ ?_ | walk_at "MineItem")))
    k_with "TurnEnd" => ((refine TurnEnd.intro [(_, _)] (by assumption) (tl1 (by assumption)) (off1 (by walk_at "MineLt")) (by walk_at "MineTup")))
    k_with "MineSub" => (first | exact fun _ h => h | assumption | (intro p hp; first | (exact List.Mem.tail _ (by assumption)) | (simp only [List.mem_append, List.mem_cons, List.not_mem_nil, or_false] at hp ⊢; grind)))
    k_with "subscriptTail" => ((k_here; (with_reducible show wpAny _ _ (subscriptTail _ _ (Value.ref _) (Value.int _ _)) _ _ _); k_dflt (refine' item_tupleT ?mwt ?mwa ?mwb ?mwc ?mwd ?_; (case mwt => exact News.isTup (by k_asm) (by walk_at "MineMem")); (case mwa => decide); (case mwb => decide); (case mwc => rfl); (case mwd => rfl); k_whole)))
    k_with "MineRoom" => (first | assumption | ktr_room | (dsimp only [ktrTop, Around.deeper, Around.in1] at *; simp only [recursionLimit] at *; omega))
    k_with "MineUnits" => (first | ktr_units | (have hcL9 := cLine_is; dsimp only [ktrTop, Around.deeper, Around.in1] at *; omega))
    k_with "And" => (((with_reducible show WrapAt _ _ ∧ _); k_dflt (refine ⟨WrapAt.of (by k_asm) (by walk_at "MineMemD"), ?_⟩); (try dsimp only [List.nil_append, List.cons_append])))
    k_with "eval Name" => ((k_here; (with_reducible show wpAny _ _ (eval (Expr.Name _ _) (compEnvC _ _ _ _)) _ _ _); k_dflt (first | refine LCgL.ld_own (by k_asm) (by walk_at "MineMem") (by assumption) (by assumption) ?_ | refine LCgL.ld_global (by k_asm) (by k_asm) (by k_asm) (by k_is) ?_ | refine LCgL.ld_built (by k_asm) (by k_asm) (by k_asm) (by k_is) (by boot_by_name) (by decide) ?_)))
    k_with "MineMemD" => ((repeat' (first | assumption | exact List.mem_cons_self | (refine List.mem_cons_of_mem _ ?_) | (refine List.mem_append.mpr (Or.inl ?_)) | fail "MineMemD")))
    k_with "eval ListComp" => (refine Hid.out ?_)
    k_steps
    unfold Hid
    refine LCp.ListComp_P (F₀ := by k_asm) (by with_unfolding_all rfl) (by decide) (by rfl) (by decide) (by rfl) (by rfl) (by decide) ?_
    k_with_none
    k_with "MineMem" => (first | (with_reducible assumption) | (with_reducible exact List.mem_cons_self) | ((with_reducible refine List.mem_append.mpr (Or.inl ?_)); walk_at "MineMem") | ((with_reducible refine List.mem_append.mpr (Or.inr ?_)); walk_at "MineMem") | ((with_reducible refine List.mem_cons_of_mem _ ?_); walk_at "MineMem"))
    k_with "eval ListComp" => ((k_here; k_dflt (refine LCg.ListComp_U (F₀ := by k_asm) (by with_unfolding_all rfl) (by decide) (by rfl) (by decide) (by rfl) ?_)))
    k_with "MineItem" => (first | exact DatIn.none | exact DatIn.bool _ | exact DatIn.int _ _ | exact DatIn.str _ _ | assumption | (refine DatIn.mono ?_ (by assumption); (intro p hp; (try simp only [List.mem_append, List.mem_cons] at hp ⊢); grind)))
    k_with "MineLt" => (first | assumption | exact allLt_of (by assumption) | tbn_find | (simp only [AllLt, and_true]; tbn_conj))
    k_with "MineTup" => ((refine DatIn.tuple (List.mem_append.mpr (Or.inr (List.Mem.head _))) ?_; repeat' (first | exact DatAll.nil | refine DatAll.cons ?_ ?_ | walk_at "MineItem")))
    k_with "TurnEnd" => ((refine TurnEnd.intro [(_, _)] (by assumption) (tl1 (by assumption)) (off1 (by walk_at "MineLt")) (by walk_at "MineTup")))
    k_with "MineSub" => (first | exact fun _ h => h | assumption | (intro p hp; first | (exact List.Mem.tail _ (by assumption)) | (simp only [List.mem_append, List.mem_cons, List.not_mem_nil, or_false] at hp ⊢; grind)))
    k_with "subscriptTail" => ((k_here; (with_reducible show wpAny _ _ (subscriptTail _ _ (Value.ref _) (Value.int _ _)) _ _ _); k_dflt (refine' item_tupleT ?mwt ?mwa ?mwb ?mwc ?mwd ?_; (case mwt => exact News.isTup (by k_asm) (by walk_at "MineMem")); (case mwa => decide); (case mwb => decide); (case mwc => rfl); (case mwd => rfl); k_whole)))
    k_with "MineRoom" => (first | assumption | ktr_room | (dsimp only [ktrTop, Around.deeper, Around.in1] at *; simp only [recursionLimit] at *; omega))
    k_with "MineUnits" => (first | ktr_units | (have hcL9 := cLine_is; dsimp only [ktrTop, Around.deeper, Around.in1] at *; omega))
    k_with "And" => (((with_reducible show WrapAt _ _ ∧ _); k_dflt (refine ⟨WrapAt.of (by k_asm) (by walk_at "MineMemD"), ?_⟩); (try dsimp only [List.nil_append, List.cons_append])))
    k_with "eval Name" => ((k_here; (with_reducible show wpAny _ _ (eval (Expr.Name _ _) (compEnvC _ _ _ _)) _ _ _); k_dflt (first | refine LCgL.ld_own (by k_asm) (by walk_at "MineMem") (by assumption) (by assumption) ?_ | refine LCgL.ld_global (by k_asm) (by k_asm) (by k_asm) (by k_is) ?_ | refine LCgL.ld_built (by k_asm) (by k_asm) (by k_asm) (by k_is) (by boot_by_name) (by decide) ?_)))
    k_with "MineMemD" => ((repeat' (first | assumption | exact List.mem_cons_self | (refine List.mem_cons_of_mem _ ?_) | (refine List.mem_append.mpr (Or.inl ?_)) | fail "MineMemD")))
    k_steps
    rename Fr _ _ _ _ => F12
    rename News _ _ _ _ => N12
    refine src_P (sub := B) (en1 := fun n => .str (frS z n)) (en2 := fun n => .list ((fiS z n).map Dat.int)) (dec := fun n => .str (frS z n ++ figT (fiS z n))) (ds := numsS z ns) (by rfl) F12 N12 (hBl _ hmB) hBl hDB (by have := nums_len (z := z) hn; omega) ?turn2 ?fin2
    case' turn2 =>
      clear F12 N12
      intro u₁ u₂ d I' oI' C oC D m₂ ys tl' h' tk' E' hd' q1 q2 hC hx1 hx2 F' N'
      obtain ⟨tf, rfl⟩ := invS q1
      obtain ⟨fa9, fv, fn, rfl, hmf, hDf⟩ := invL q2
      k_with_none
      k_with "MineMem" => (first | (with_reducible assumption) | (with_reducible exact List.mem_cons_self) | ((with_reducible refine List.mem_append.mpr (Or.inl ?_)); walk_at "MineMem") | ((with_reducible refine List.mem_append.mpr (Or.inr ?_)); walk_at "MineMem") | ((with_reducible refine List.mem_cons_of_mem _ ?_); walk_at "MineMem"))
      k_with "eval ListComp" => ((k_here; k_dflt (refine LCg.ListComp_U (F₀ := by k_asm) (by with_unfolding_all rfl) (by decide) (by rfl) (by decide) (by rfl) ?_)))
      k_with "MineItem" => (first | exact DatIn.none | exact DatIn.bool _ | exact DatIn.int _ _ | exact DatIn.str _ _ | assumption | (refine DatIn.mono ?_ (by assumption); (intro p hp; (try simp only [List.mem_append, List.mem_cons] at hp ⊢); grind)))
      k_with "MineLt" => (first | assumption | exact allLt_of (by assumption) | tbn_find | (simp only [AllLt, and_true]; tbn_conj))
      k_with "MineTup" => ((refine DatIn.tuple (List.mem_append.mpr (Or.inr (List.Mem.head _))) ?_; repeat' (first | exact DatAll.nil | refine DatAll.cons ?_ ?_ | walk_at "MineItem")))
      k_with "TurnEnd" => ((refine TurnEnd.intro [(_, _)] (by assumption) (tl1 (by assumption)) (off1 (by walk_at "MineLt")) (by walk_at "MineTup")))
      k_with "MineSub" => (first | exact fun _ h => h | assumption | (intro p hp; first | (exact List.Mem.tail _ (by assumption)) | (simp only [List.mem_append, List.mem_cons, List.not_mem_nil, or_false] at hp ⊢; grind)))
      k_with "subscriptTail" => ((k_here; (with_reducible show wpAny _ _ (subscriptTail _ _ (Value.ref _) (Value.int _ _)) _ _ _); k_dflt (refine' item_tupleT ?mwt ?mwa ?mwb ?mwc ?mwd ?_; (case mwt => exact News.isTup (by k_asm) (by walk_at "MineMem")); (case mwa => decide); (case mwb => decide); (case mwc => rfl); (case mwd => rfl); k_whole)))
      k_with "MineRoom" => (first | assumption | ktr_room | (dsimp only [ktrTop, Around.deeper, Around.in1] at *; simp only [recursionLimit] at *; omega))
      k_with "MineUnits" => (first | ktr_units | (have hcL9 := cLine_is; dsimp only [ktrTop, Around.deeper, Around.in1] at *; omega))
      k_with "And" => (((with_reducible show WrapAt _ _ ∧ _); k_dflt (refine ⟨WrapAt.of (by k_asm) (by walk_at "MineMemD"), ?_⟩); (try dsimp only [List.nil_append, List.cons_append])))
      k_with "eval Name" => ((k_here; (with_reducible show wpAny _ _ (eval (Expr.Name _ _) (compEnvC _ _ _ _)) _ _ _); k_dflt (first | refine LCgL.ld_own (by k_asm) (by walk_at "MineMem") (by assumption) (by assumption) ?_ | refine LCgL.ld_global (by k_asm) (by k_asm) (by k_asm) (by k_is) ?_ | refine LCgL.ld_built (by k_asm) (by k_asm) (by k_asm) (by k_is) (by boot_by_name) (by decide) ?_)))
      k_with "MineMemD" => ((repeat' (first | assumption | exact List.mem_cons_self | (refine List.mem_cons_of_mem _ ?_) | (refine List.mem_append.mpr (Or.inl ?_)) | fail "MineMemD")))
      k_steps
      have hBt : ∀ p ∈ B ++ tl', p ∈ (I', oI') :: (C, oC) :: (D, LCg.lst ys) :: ((I, oI) :: (cs0 ++ (B ++ E9)) ++ tl') := by
        intro p hp
        refine .tail _ (.tail _ (.tail _ ?_))
        rcases List.mem_append.mp hp with hp | hp
        · exact List.mem_append.mpr (.inl (hBl p hp))
        · exact List.mem_append.mpr (.inr hp)
      have hnd := nums_le hd'
      refine src_U (sub := B ++ tl') (enc := Dat.int) (dec := fun i => .str ⟨#[hx i]⟩) (ds := fiS z d) (by rfl) F' N' (hBt _ hmf) hBt hDf (by have := fi_len (z := z) hnd; omega) ?turn3 ?fin3
      case' turn3 =>
        clear F' N'
        intro v d2 I2 oI2 C2 oC2 D2 m3 ys2 tl2 h2 tk2 E2' hd2 hv hC2 hx F' N'
        obtain ⟨ti, rfl⟩ := invI hv
        k_with_none
        k_with "MineMem" => (first | (with_reducible assumption) | (with_reducible exact List.mem_cons_self) | ((with_reducible refine List.mem_append.mpr (Or.inl ?_)); walk_at "MineMem") | ((with_reducible refine List.mem_append.mpr (Or.inr ?_)); walk_at "MineMem") | ((with_reducible refine List.mem_cons_of_mem _ ?_); walk_at "MineMem"))
        k_with "eval ListComp" => ((k_here; k_dflt (refine LCg.ListComp_U (F₀ := by k_asm) (by with_unfolding_all rfl) (by decide) (by rfl) (by decide) (by rfl) ?_)))
        k_with "MineItem" => (first | exact DatIn.none | exact DatIn.bool _ | exact DatIn.int _ _ | exact DatIn.str _ _ | assumption | (refine DatIn.mono ?_ (by assumption); (intro p hp; (try simp only [List.mem_append, List.mem_cons] at hp ⊢); grind)))
        k_with "MineLt" => (first | assumption | exact allLt_of (by assumption) | tbn_find | (simp only [AllLt, and_true]; tbn_conj))
        k_with "MineTup" => ((refine DatIn.tuple (List.mem_append.mpr (Or.inr (List.Mem.head _))) ?_; repeat' (first | exact DatAll.nil | refine DatAll.cons ?_ ?_ | walk_at "MineItem")))
        k_with "TurnEnd" => ((refine TurnEnd.intro [(_, _)] (by assumption) (tl1 (by assumption)) (off1 (by walk_at "MineLt")) (by walk_at "MineTup")))
        k_with "MineSub" => (first | exact fun _ h => h | assumption | (intro p hp; first | (exact List.Mem.tail _ (by assumption)) | (simp only [List.mem_append, List.mem_cons, List.not_mem_nil, or_false] at hp ⊢; grind)))
        k_with "subscriptTail" => ((k_here; (with_reducible show wpAny _ _ (subscriptTail _ _ (Value.ref _) (Value.int _ _)) _ _ _); k_dflt (refine' item_tupleT ?mwt ?mwa ?mwb ?mwc ?mwd ?_; (case mwt => exact News.isTup (by k_asm) (by walk_at "MineMem")); (case mwa => decide); (case mwb => decide); (case mwc => rfl); (case mwd => rfl); k_whole)))
        k_with "MineRoom" => (first | assumption | ktr_room | (dsimp only [ktrTop, Around.deeper, Around.in1] at *; simp only [recursionLimit] at *; omega))
        k_with "MineUnits" => (first | ktr_units | (have hcL9 := cLine_is; dsimp only [ktrTop, Around.deeper, Around.in1] at *; omega))
        k_with "And" => (((with_reducible show WrapAt _ _ ∧ _); k_dflt (refine ⟨WrapAt.of (by k_asm) (by walk_at "MineMemD"), ?_⟩); (try dsimp only [List.nil_append, List.cons_append])))
        k_with "eval Name" => ((k_here; (with_reducible show wpAny _ _ (eval (Expr.Name _ _) (compEnvC _ _ _ _)) _ _ _); k_dflt (first | refine LCgL.ld_own (by k_asm) (by walk_at "MineMem") (by assumption) (by assumption) ?_ | refine LCgL.ld_global (by k_asm) (by k_asm) (by k_asm) (by k_is) ?_ | refine LCgL.ld_built (by k_asm) (by k_asm) (by k_asm) (by k_is) (by boot_by_name) (by decide) ?_)))
        k_with "MineMemD" => ((repeat' (first | assumption | exact List.mem_cons_self | (refine List.mem_cons_of_mem _ ?_) | (refine List.mem_append.mpr (Or.inl ?_)) | fail "MineMemD")))
        k_with "subscriptTail" => (refine item_chr (fi_bd _ hd2) ?_; intro ta9 ka9; (try dsimp only))
        k_steps
        exact ⟨_, _, [], rfl, by assumption, tl0 (by assumption), off0, .str _ _⟩
      case' fin3 =>
      intro g3 ys3 tl3 o3 D3
      clear F' N'
      intro S3 h13 tk13 F13 N13 l13
      dsimp only
      k_with_none
      k_with "MineMem" => (first | (with_reducible assumption) | (with_reducible exact List.mem_cons_self) | ((with_reducible refine List.mem_append.mpr (Or.inl ?_)); walk_at "MineMem") | ((with_reducible refine List.mem_append.mpr (Or.inr ?_)); walk_at "MineMem") | ((with_reducible refine List.mem_cons_of_mem _ ?_); walk_at "MineMem"))
      k_with "eval ListComp" => ((k_here; k_dflt (refine LCg.ListComp_U (F₀ := by k_asm) (by with_unfolding_all rfl) (by decide) (by rfl) (by decide) (by rfl) ?_)))
      k_with "MineItem" => (first | exact DatIn.none | exact DatIn.bool _ | exact DatIn.int _ _ | exact DatIn.str _ _ | assumption | (refine DatIn.mono ?_ (by assumption); (intro p hp; (try simp only [List.mem_append, List.mem_cons] at hp ⊢); grind)))
      k_with "MineLt" => (first | assumption | exact allLt_of (by assumption) | tbn_find | (simp only [AllLt, and_true]; tbn_conj))
      k_with "MineTup" => ((refine DatIn.tuple (List.mem_append.mpr (Or.inr (List.Mem.head _))) ?_; repeat' (first | exact DatAll.nil | refine DatAll.cons ?_ ?_ | walk_at "MineItem")))
      k_with "TurnEnd" => ((refine TurnEnd.intro [(_, _)] (by assumption) (tl1 (by assumption)) (off1 (by walk_at "MineLt")) (by walk_at "MineTup")))
      k_with "MineSub" => (first | exact fun _ h => h | assumption | (intro p hp; first | (exact List.Mem.tail _ (by assumption)) | (simp only [List.mem_append, List.mem_cons, List.not_mem_nil, or_false] at hp ⊢; grind)))
      k_with "subscriptTail" => ((k_here; (with_reducible show wpAny _ _ (subscriptTail _ _ (Value.ref _) (Value.int _ _)) _ _ _); k_dflt (refine' item_tupleT ?mwt ?mwa ?mwb ?mwc ?mwd ?_; (case mwt => exact News.isTup (by k_asm) (by walk_at "MineMem")); (case mwa => decide); (case mwb => decide); (case mwc => rfl); (case mwd => rfl); k_whole)))
      k_with "MineRoom" => (first | assumption | ktr_room | (dsimp only [ktrTop, Around.deeper, Around.in1] at *; simp only [recursionLimit] at *; omega))
      k_with "MineUnits" => (first | ktr_units | (have hcL9 := cLine_is; dsimp only [ktrTop, Around.deeper, Around.in1] at *; omega))
      k_with "And" => (((with_reducible show WrapAt _ _ ∧ _); k_dflt (refine ⟨WrapAt.of (by k_asm) (by walk_at "MineMemD"), ?_⟩); (try dsimp only [List.nil_append, List.cons_append])))
      k_with "eval Name" => ((k_here; (with_reducible show wpAny _ _ (eval (Expr.Name _ _) (compEnvC _ _ _ _)) _ _ _); k_dflt (first | refine LCgL.ld_own (by k_asm) (by walk_at "MineMem") (by assumption) (by assumption) ?_ | refine LCgL.ld_global (by k_asm) (by k_asm) (by k_asm) (by k_is) ?_ | refine LCgL.ld_built (by k_asm) (by k_asm) (by k_asm) (by k_is) (by boot_by_name) (by decide) ?_)))
      k_with "MineMemD" => ((repeat' (first | assumption | exact List.mem_cons_self | (refine List.mem_cons_of_mem _ ?_) | (refine List.mem_append.mpr (Or.inl ?_)) | fail "MineMemD")))
      k_with "call builtin:str.join" => (k_dflt (refine join_chr (by k_asm) (.head _) D3 (by have := fi_len (z := z) hnd; omega) ?_; intro ta9 ka9; (try dsimp only)))
      k_with "binaryOp Add str str" => (k_dflt (refine' add_str ?_ ?hz9; (case hz9 => (have q1 := fr_len (z := z) (n := d); have q2 := fi_len (z := z) hnd; rw [figT_len, sizeLine_eq]; omega)); intro ta9 ka9; (try dsimp only)))
      k_with "TurnEnd" => (refine Hid.out ?_)
      k_steps
      unfold Hid
      rename Fr _ _ _ _ => F14
      rename News _ _ _ _ => N14
      exact ⟨_, _, (S3, LCg.lst ys3) :: tl3, rfl, F14, newsIn N14 (fun p hp => by
        rcases List.mem_append.mp hp with hp | hp
        · exact .tail _ (List.mem_append.mpr (.inl hp))
        rcases List.mem_cons.mp hp with rfl | hp
        · exact .head _
        · exact .tail _ (List.mem_append.mpr (.inr hp))), offIn o3 (off1_lt l13), .str _ _⟩
    case' fin2 =>
    intro g4 ys4 tl4 o4 D4
    clear F12 N12
    intro S4 h14 tk14 F14 N14 l14
    dsimp only
    k_with_none
    k_with "MineMem" => (first | (with_reducible assumption) | (with_reducible exact List.mem_cons_self) | ((with_reducible refine List.mem_append.mpr (Or.inl ?_)); walk_at "MineMem") | ((with_reducible refine List.mem_append.mpr (Or.inr ?_)); walk_at "MineMem") | ((with_reducible refine List.mem_cons_of_mem _ ?_); walk_at "MineMem"))
    k_with "eval ListComp" => ((k_here; k_dflt (refine LCg.ListComp_U (F₀ := by k_asm) (by with_unfolding_all rfl) (by decide) (by rfl) (by decide) (by rfl) ?_)))
    k_with "MineItem" => (first | exact DatIn.none | exact DatIn.bool _ | exact DatIn.int _ _ | exact DatIn.str _ _ | assumption | (refine DatIn.mono ?_ (by assumption); (intro p hp; (try simp only [List.mem_append, List.mem_cons] at hp ⊢); grind)))
    k_with "MineLt" => (first | assumption | exact allLt_of (by assumption) | tbn_find | (simp only [AllLt, and_true]; tbn_conj))
    k_with "MineTup" => ((refine DatIn.tuple (List.mem_append.mpr (Or.inr (List.Mem.head _))) ?_; repeat' (first | exact DatAll.nil | refine DatAll.cons ?_ ?_ | walk_at "MineItem")))
    k_with "TurnEnd" => ((refine TurnEnd.intro [(_, _)] (by assumption) (tl1 (by assumption)) (off1 (by walk_at "MineLt")) (by walk_at "MineTup")))
    k_with "MineSub" => (first | exact fun _ h => h | assumption | (intro p hp; first | (exact List.Mem.tail _ (by assumption)) | (simp only [List.mem_append, List.mem_cons, List.not_mem_nil, or_false] at hp ⊢; grind)))
    k_with "subscriptTail" => ((k_here; (with_reducible show wpAny _ _ (subscriptTail _ _ (Value.ref _) (Value.int _ _)) _ _ _); k_dflt (refine' item_tupleT ?mwt ?mwa ?mwb ?mwc ?mwd ?_; (case mwt => exact News.isTup (by k_asm) (by walk_at "MineMem")); (case mwa => decide); (case mwb => decide); (case mwc => rfl); (case mwd => rfl); k_whole)))
    k_with "MineRoom" => (first | assumption | ktr_room | (dsimp only [ktrTop, Around.deeper, Around.in1] at *; simp only [recursionLimit] at *; omega))
    k_with "MineUnits" => (first | ktr_units | (have hcL9 := cLine_is; dsimp only [ktrTop, Around.deeper, Around.in1] at *; omega))
    k_with "And" => (((with_reducible show WrapAt _ _ ∧ _); k_dflt (refine ⟨WrapAt.of (by k_asm) (by walk_at "MineMemD"), ?_⟩); (try dsimp only [List.nil_append, List.cons_append])))
    k_with "eval Name" => ((k_here; (with_reducible show wpAny _ _ (eval (Expr.Name _ _) (compEnvC _ _ _ _)) _ _ _); k_dflt (first | refine LCgL.ld_own (by k_asm) (by walk_at "MineMem") (by assumption) (by assumption) ?_ | refine LCgL.ld_global (by k_asm) (by k_asm) (by k_asm) (by k_is) ?_ | refine LCgL.ld_built (by k_asm) (by k_asm) (by k_asm) (by k_is) (by boot_by_name) (by decide) ?_)))
    k_with "MineMemD" => ((repeat' (first | assumption | exact List.mem_cons_self | (refine List.mem_cons_of_mem _ ?_) | (refine List.mem_append.mpr (Or.inl ?_)) | fail "MineMemD")))
    k_with "compareOp NotEq" => (refine Hid.out ?_)
    k_steps
    unfold Hid
    have D4' : DatAll [(S4, LCg.lst ys4)] ys4 (toldZ z ns) := by
      rw [← told_text]
      exact datAll_flat D4 (fun d hd => by obtain ⟨i, _, rfl⟩ := List.mem_map.mp hd; rfl)
    refine' d_ne (da := .list (toldZ z ns)) (db := .list (toldZ z ns)) N14 hA ?sa1 (DatIn.list (List.Mem.head _) D4') ?sb1 told_okL told_okL ?hu1 ?_
    case sa1 => exact fun p hp => .tail _ (List.mem_append.mpr (.inl (hBl p hp)))
    case sb1 => exact fun p hp => by rw [List.mem_singleton.mp hp]; exact .head _
    case hu1 => first | units_room | walk_at "MineUnits"
    rw [list_self told_str, Bool.not_true]
    k_with_none
    k_with "MineMem" => (first | (with_reducible assumption) | (with_reducible exact List.mem_cons_self) | ((with_reducible refine List.mem_append.mpr (Or.inl ?_)); walk_at "MineMem") | ((with_reducible refine List.mem_append.mpr (Or.inr ?_)); walk_at "MineMem") | ((with_reducible refine List.mem_cons_of_mem _ ?_); walk_at "MineMem"))
    k_with "eval ListComp" => ((k_here; k_dflt (refine LCg.ListComp_U (F₀ := by k_asm) (by with_unfolding_all rfl) (by decide) (by rfl) (by decide) (by rfl) ?_)))
    k_with "MineItem" => (first | exact DatIn.none | exact DatIn.bool _ | exact DatIn.int _ _ | exact DatIn.str _ _ | assumption | (refine DatIn.mono ?_ (by assumption); (intro p hp; (try simp only [List.mem_append, List.mem_cons] at hp ⊢); grind)))
    k_with "MineLt" => (first | assumption | exact allLt_of (by assumption) | tbn_find | (simp only [AllLt, and_true]; tbn_conj))
    k_with "MineTup" => ((refine DatIn.tuple (List.mem_append.mpr (Or.inr (List.Mem.head _))) ?_; repeat' (first | exact DatAll.nil | refine DatAll.cons ?_ ?_ | walk_at "MineItem")))
    k_with "TurnEnd" => ((refine TurnEnd.intro [(_, _)] (by assumption) (tl1 (by assumption)) (off1 (by walk_at "MineLt")) (by walk_at "MineTup")))
    k_with "MineSub" => (first | exact fun _ h => h | assumption | (intro p hp; first | (exact List.Mem.tail _ (by assumption)) | (simp only [List.mem_append, List.mem_cons, List.not_mem_nil, or_false] at hp ⊢; grind)))
    k_with "subscriptTail" => ((k_here; (with_reducible show wpAny _ _ (subscriptTail _ _ (Value.ref _) (Value.int _ _)) _ _ _); k_dflt (refine' item_tupleT ?mwt ?mwa ?mwb ?mwc ?mwd ?_; (case mwt => exact News.isTup (by k_asm) (by walk_at "MineMem")); (case mwa => decide); (case mwb => decide); (case mwc => rfl); (case mwd => rfl); k_whole)))
    k_with "MineRoom" => (first | assumption | ktr_room | (dsimp only [ktrTop, Around.deeper, Around.in1] at *; simp only [recursionLimit] at *; omega))
    k_with "MineUnits" => (first | ktr_units | (have hcL9 := cLine_is; dsimp only [ktrTop, Around.deeper, Around.in1] at *; omega))
    k_with "And" => (((with_reducible show WrapAt _ _ ∧ _); k_dflt (refine ⟨WrapAt.of (by k_asm) (by walk_at "MineMemD"), ?_⟩); (try dsimp only [List.nil_append, List.cons_append])))
    k_with "eval Name" => ((k_here; (with_reducible show wpAny _ _ (eval (Expr.Name _ _) (compEnvC _ _ _ _)) _ _ _); k_dflt (first | refine LCgL.ld_own (by k_asm) (by walk_at "MineMem") (by assumption) (by assumption) ?_ | refine LCgL.ld_global (by k_asm) (by k_asm) (by k_asm) (by k_is) ?_ | refine LCgL.ld_built (by k_asm) (by k_asm) (by k_asm) (by k_is) (by boot_by_name) (by decide) ?_)))
    k_with "MineMemD" => ((repeat' (first | assumption | exact List.mem_cons_self | (refine List.mem_cons_of_mem _ ?_) | (refine List.mem_append.mpr (Or.inl ?_)) | fail "MineMemD")))
    k_with "SeqPost" => (refine Hid.out ?_)
    k_steps
    unfold Hid
    rename Fr _ _ _ _ => F15
    rename News _ _ _ _ => N15
    refine SeqEnd.intro (cs0 ++ (B ++ E9)) F15 (newsIn N15 (fun p hp => .tail _ (List.mem_append.mpr (.inl hp)))) hI9 off ⟨hl, E9, rfl, offE, m2_other hms (by decide) (by decide)⟩
  case' last1 =>
  clear F7 N8
  rintro m led h9 tk9 ⟨E9, rfl, offE, hms⟩ F9 N9
  dsimp only
  k_with_none
  k_with "MineMem" => (first | (with_reducible assumption) | (with_reducible exact List.mem_cons_self) | ((with_reducible refine List.mem_append.mpr (Or.inl ?_)); walk_at "MineMem") | ((with_reducible refine List.mem_append.mpr (Or.inr ?_)); walk_at "MineMem") | ((with_reducible refine List.mem_cons_of_mem _ ?_); walk_at "MineMem"))
  k_with "eval ListComp" => ((k_here; k_dflt (refine LCg.ListComp_U (F₀ := by k_asm) (by with_unfolding_all rfl) (by decide) (by rfl) (by decide) (by rfl) ?_)))
  k_with "MineItem" => (first | exact DatIn.none | exact DatIn.bool _ | exact DatIn.int _ _ | exact DatIn.str _ _ | assumption | (refine DatIn.mono ?_ (by assumption); (intro p hp; (try simp only [List.mem_append, List.mem_cons] at hp ⊢); grind)))
  k_with "MineLt" => (first | assumption | exact allLt_of (by assumption) | tbn_find | (simp only [AllLt, and_true]; tbn_conj))
  k_with "MineTup" => ((refine DatIn.tuple (List.mem_append.mpr (Or.inr (List.Mem.head _))) ?_; repeat' (first | exact DatAll.nil | refine DatAll.cons ?_ ?_ | walk_at "MineItem")))
  k_with "TurnEnd" => ((refine TurnEnd.intro [(_, _)] (by assumption) (tl1 (by assumption)) (off1 (by walk_at "MineLt")) (by walk_at "MineTup")))
  k_with "MineSub" => (first | exact fun _ h => h | assumption | (intro p hp; first | (exact List.Mem.tail _ (by assumption)) | (simp only [List.mem_append, List.mem_cons, List.not_mem_nil, or_false] at hp ⊢; grind)))
  k_with "subscriptTail" => ((k_here; (with_reducible show wpAny _ _ (subscriptTail _ _ (Value.ref _) (Value.int _ _)) _ _ _); k_dflt (refine' item_tupleT ?mwt ?mwa ?mwb ?mwc ?mwd ?_; (case mwt => exact News.isTup (by k_asm) (by walk_at "MineMem")); (case mwa => decide); (case mwb => decide); (case mwc => rfl); (case mwd => rfl); k_whole)))
  k_with "MineRoom" => (first | assumption | ktr_room | (dsimp only [ktrTop, Around.deeper, Around.in1] at *; simp only [recursionLimit] at *; omega))
  k_with "MineUnits" => (first | ktr_units | (have hcL9 := cLine_is; dsimp only [ktrTop, Around.deeper, Around.in1] at *; omega))
  k_with "And" => (((with_reducible show WrapAt _ _ ∧ _); k_dflt (refine ⟨WrapAt.of (by k_asm) (by walk_at "MineMemD"), ?_⟩); (try dsimp only [List.nil_append, List.cons_append])))
  k_with "eval Name" => ((k_here; (with_reducible show wpAny _ _ (eval (Expr.Name _ _) (compEnvC _ _ _ _)) _ _ _); k_dflt (first | refine LCgL.ld_own (by k_asm) (by walk_at "MineMem") (by assumption) (by assumption) ?_ | refine LCgL.ld_global (by k_asm) (by k_asm) (by k_asm) (by k_is) ?_ | refine LCgL.ld_built (by k_asm) (by k_asm) (by k_asm) (by k_is) (by boot_by_name) (by decide) ?_)))
  k_with "MineMemD" => ((repeat' (first | assumption | exact List.mem_cons_self | (refine List.mem_cons_of_mem _ ?_) | (refine List.mem_append.mpr (Or.inl ?_)) | fail "MineMemD")))
  k_with "exec For Tuple Tuple cons nil" => (refine Hid.out ?_)
  k_steps
  unfold Hid
  refine seq_for F9 rfl ?_
  k_with_none
  k_with "MineMem" => (first | (with_reducible assumption) | (with_reducible exact List.mem_cons_self) | ((with_reducible refine List.mem_append.mpr (Or.inl ?_)); walk_at "MineMem") | ((with_reducible refine List.mem_append.mpr (Or.inr ?_)); walk_at "MineMem") | ((with_reducible refine List.mem_cons_of_mem _ ?_); walk_at "MineMem"))
  k_with "eval ListComp" => ((k_here; k_dflt (refine LCg.ListComp_U (F₀ := by k_asm) (by with_unfolding_all rfl) (by decide) (by rfl) (by decide) (by rfl) ?_)))
  k_with "MineItem" => (first | exact DatIn.none | exact DatIn.bool _ | exact DatIn.int _ _ | exact DatIn.str _ _ | assumption | (refine DatIn.mono ?_ (by assumption); (intro p hp; (try simp only [List.mem_append, List.mem_cons] at hp ⊢); grind)))
  k_with "MineLt" => (first | assumption | exact allLt_of (by assumption) | tbn_find | (simp only [AllLt, and_true]; tbn_conj))
  k_with "MineTup" => ((refine DatIn.tuple (List.mem_append.mpr (Or.inr (List.Mem.head _))) ?_; repeat' (first | exact DatAll.nil | refine DatAll.cons ?_ ?_ | walk_at "MineItem")))
  k_with "TurnEnd" => ((refine TurnEnd.intro [(_, _)] (by assumption) (tl1 (by assumption)) (off1 (by walk_at "MineLt")) (by walk_at "MineTup")))
  k_with "MineSub" => (first | exact fun _ h => h | assumption | (intro p hp; first | (exact List.Mem.tail _ (by assumption)) | (simp only [List.mem_append, List.mem_cons, List.not_mem_nil, or_false] at hp ⊢; grind)))
  k_with "subscriptTail" => ((k_here; (with_reducible show wpAny _ _ (subscriptTail _ _ (Value.ref _) (Value.int _ _)) _ _ _); k_dflt (refine' item_tupleT ?mwt ?mwa ?mwb ?mwc ?mwd ?_; (case mwt => exact News.isTup (by k_asm) (by walk_at "MineMem")); (case mwa => decide); (case mwb => decide); (case mwc => rfl); (case mwd => rfl); k_whole)))
  k_with "MineRoom" => (first | assumption | ktr_room | (dsimp only [ktrTop, Around.deeper, Around.in1] at *; simp only [recursionLimit] at *; omega))
  k_with "MineUnits" => (first | ktr_units | (have hcL9 := cLine_is; dsimp only [ktrTop, Around.deeper, Around.in1] at *; omega))
  k_with "And" => (((with_reducible show WrapAt _ _ ∧ _); k_dflt (refine ⟨WrapAt.of (by k_asm) (by walk_at "MineMemD"), ?_⟩); (try dsimp only [List.nil_append, List.cons_append])))
  k_with "eval Name" => ((k_here; (with_reducible show wpAny _ _ (eval (Expr.Name _ _) (compEnvC _ _ _ _)) _ _ _); k_dflt (first | refine LCgL.ld_own (by k_asm) (by walk_at "MineMem") (by assumption) (by assumption) ?_ | refine LCgL.ld_global (by k_asm) (by k_asm) (by k_asm) (by k_is) ?_ | refine LCgL.ld_built (by k_asm) (by k_asm) (by k_asm) (by k_is) (by boot_by_name) (by decide) ?_)))
  k_with "MineMemD" => ((repeat' (first | assumption | exact List.mem_cons_self | (refine List.mem_cons_of_mem _ ?_) | (refine List.mem_append.mpr (Or.inl ?_)) | fail "MineMemD")))
  k_steps
  rename_i T1 hT1 lT1 T2 hT2 lT2 T3 hT3 FT NT lT3
  obtain ⟨B2, hB2⟩ : ∃ b : List (Addr × Obj), b = (T3, { cls := .type "tuple", data := .seq [Value.ref T1, Value.ref T2].toArray 0 }) :: (T2, { cls := .type "tuple", data := .seq [Value.int 1 (tk9 + 1 + 1), Value.int 0 (tk9 + 1 + 1 + 1)].toArray 0 }) :: (T1, { cls := .type "tuple", data := .seq [Value.int 0 tk9, Value.int 1 (tk9 + 1)].toArray 0 }) :: (B ++ E9) := ⟨_, rfl⟩
  have offc : ∀ p ∈ B2, p.1 ≠ s₁.heap.objs.size + 1 ∧ p.1 ≠ s₁.heap.objs.size + 1 + 1 ∧ p.1 ≠ s₁.heap.objs.size + 1 + 1 + 1 := by
    intro p hp
    have key : ∀ q ∈ cs0, p.1 ≠ q.1 := by
      intro q hq
      rw [hB2] at hp
      have hq1 : q ∈ cs0 ++ (B ++ E9) := List.mem_append.mpr (.inl hq)
      rcases List.mem_cons.mp hp with rfl | hp
      · exact Nat.ne_of_gt (ktn_ltOf lT3.2.2 q hq1)
      rcases List.mem_cons.mp hp with rfl | hp
      · exact Nat.ne_of_gt (ktn_ltOf lT2.2 q hq1)
      rcases List.mem_cons.mp hp with rfl | hp
      · exact Nat.ne_of_gt (lT1 q hq1)
      · exact offE q hq p hp
    rw [hcs0] at key
    exact ⟨key (_, oc1) (.tail _ (.tail _ (.head _))), key (_, oc2) (.tail _ (.head _)), key (_, oc3) (.head _)⟩
  have NT2 : News s₁.heap s₁.heap.objs.size hT3 ((s₁.heap.objs.size + 1, oc1) :: (s₁.heap.objs.size + 1 + 1, oc2) :: (s₁.heap.objs.size + 1 + 1 + 1, oc3) :: B2) := newsIn NT (by
    subst hB2 hcs0
    intro p hp
    simp only [List.mem_cons, List.mem_append, List.not_mem_nil, or_false] at hp ⊢
    grind)
  have hT3m : (T3, ({ cls := .type "tuple", data := .seq [Value.ref T1, Value.ref T2].toArray 0 } : Obj)) ∈ B2 := by rw [hB2]; exact .head _
  have hBB : ∀ p ∈ B, p ∈ B2 := fun p hp => by rw [hB2]; exact .tail _ (.tail _ (.tail _ (List.mem_append.mpr (.inl hp))))
  have hP2 : ∀ v ∈ [Value.ref T1, Value.ref T2], P2 B2 v := by
    intro v hv
    rcases List.mem_cons.mp hv with rfl | hv
    · exact ⟨0, 1, DatIn.tuple (by rw [hB2]; exact .tail _ (.tail _ (.head _))) (.cons (.int _ _) (.cons (.int _ _) .nil)), .inl rfl, .inr rfl⟩
    · rw [List.mem_singleton.mp hv]
      exact ⟨1, 0, DatIn.tuple (by rw [hB2]; exact .tail _ (.head _)) (.cons (.int _ _) (.cons (.int _ _) .nil)), .inr rfl, .inl rfl⟩
  replace hSD := hBB _ hSD
  replace DB1 := DB1.mono hBB
  replace DB2 := DB2.mono hBB
  clear NT lT1 lT2 lT3 hB2 offE hBB offB hPs
  refine ⟨true, T3, [.ref T1, .ref T2], 0, _, _, _, rfl, rfl, rfl, FT, NT2, .tail _ (.tail _ (.tail _ hT3m)), ?_⟩
  refine seq_inv (J := J2 s₁.heap.objs.size B2 SD) (P := P2 B2) ?turn4 ?last4 _ _ _ _ hP2 ⟨oc1, oc2, oc3, _, _, _, rfl, dc1, dc2, dc3, hms⟩ (.tail _ (.tail _ (.tail _ hT3m)))
  case' turn4 =>
    clear FT NT2 dc1 dc2 dc3 hms hcs0
    intro v i I oI h tk m led hPv hJ hl hI9 F N off
    obtain ⟨a, b, hv, ha, hb⟩ := hPv
    obtain ⟨o1, o2, o3, w1, w2, w3, rfl, d1, d2, d3, hms⟩ := hJ
    obtain ⟨tt, v₁, v₂, nt, rfl, hmT, hA, hBt⟩ := invT2 hv
    obtain ⟨ta, rfl⟩ := invI hA
    obtain ⟨tb, rfl⟩ := invI hBt
    have offI : ∀ p ∈ B2, p.1 ≠ I := fun p hp => off p (.tail _ (.tail _ (.tail _ hp)))
    have off1 := off _ (.head _)
    have off2 := off _ (.tail _ (.head _))
    have off3 := off _ (.tail _ (.tail _ (.head _)))
    dsimp only at off1 off2 off3
    clear off
    refine unpackN_ (items := #[.int a ta, .int b tb]) F N (N.isTup (.tail _ (.tail _ (.tail _ (.tail _ hmT))))) rfl rfl rfl ?_
    intro h11 F11 N11
    clear F N
    have hms2 : (fun y => if y = Str.ofString "there" then some (Value.int b tb) else if y = Str.ofString "here" then some (Value.int a ta) else m y) (Str.ofString "sides") = some (.ref SD) := m2_other hms (by decide) (by decide)
    k_with_none
    k_with "MineMem" => (first | (with_reducible assumption) | (with_reducible exact List.mem_cons_self) | ((with_reducible refine List.mem_append.mpr (Or.inl ?_)); walk_at "MineMem") | ((with_reducible refine List.mem_append.mpr (Or.inr ?_)); walk_at "MineMem") | ((with_reducible refine List.mem_cons_of_mem _ ?_); walk_at "MineMem"))
    k_with "eval ListComp" => ((k_here; k_dflt (refine LCg.ListComp_U (F₀ := by k_asm) (by with_unfolding_all rfl) (by decide) (by rfl) (by decide) (by rfl) ?_)))
    k_with "MineItem" => (first | exact DatIn.none | exact DatIn.bool _ | exact DatIn.int _ _ | exact DatIn.str _ _ | assumption | (refine DatIn.mono ?_ (by assumption); (intro p hp; (try simp only [List.mem_append, List.mem_cons] at hp ⊢); grind)))
    k_with "MineLt" => (first | assumption | exact allLt_of (by assumption) | tbn_find | (simp only [AllLt, and_true]; tbn_conj))
    k_with "MineTup" => ((refine DatIn.tuple (List.mem_append.mpr (Or.inr (List.Mem.head _))) ?_; repeat' (first | exact DatAll.nil | refine DatAll.cons ?_ ?_ | walk_at "MineItem")))
    k_with "TurnEnd" => ((refine TurnEnd.intro [(_, _)] (by assumption) (tl1 (by assumption)) (off1 (by walk_at "MineLt")) (by walk_at "MineTup")))
    k_with "MineSub" => (first | exact fun _ h => h | assumption | (intro p hp; first | (exact List.Mem.tail _ (by assumption)) | (simp only [List.mem_append, List.mem_cons, List.not_mem_nil, or_false] at hp ⊢; grind)))
    k_with "subscriptTail" => ((k_here; (with_reducible show wpAny _ _ (subscriptTail _ _ (Value.ref _) (Value.int _ _)) _ _ _); k_dflt (refine' item_tupleT ?mwt ?mwa ?mwb ?mwc ?mwd ?_; (case mwt => exact News.isTup (by k_asm) (by walk_at "MineMem")); (case mwa => decide); (case mwb => decide); (case mwc => rfl); (case mwd => rfl); k_whole)))
    k_with "MineRoom" => (first | assumption | ktr_room | (dsimp only [ktrTop, Around.deeper, Around.in1] at *; simp only [recursionLimit] at *; omega))
    k_with "MineUnits" => (first | ktr_units | (have hcL9 := cLine_is; dsimp only [ktrTop, Around.deeper, Around.in1] at *; omega))
    k_with "And" => (((with_reducible show WrapAt _ _ ∧ _); k_dflt (refine ⟨WrapAt.of (by k_asm) (by walk_at "MineMemD"), ?_⟩); (try dsimp only [List.nil_append, List.cons_append])))
    k_with "eval Name" => ((k_here; (with_reducible show wpAny _ _ (eval (Expr.Name _ _) (compEnvC _ _ _ _)) _ _ _); k_dflt (first | refine LCgL.ld_own (by k_asm) (by walk_at "MineMem") (by assumption) (by assumption) ?_ | refine LCgL.ld_global (by k_asm) (by k_asm) (by k_asm) (by k_is) ?_ | refine LCgL.ld_built (by k_asm) (by k_asm) (by k_asm) (by k_is) (by boot_by_name) (by decide) ?_)))
    k_with "MineMemD" => ((repeat' (first | assumption | exact List.mem_cons_self | (refine List.mem_cons_of_mem _ ?_) | (refine List.mem_append.mpr (Or.inl ?_)) | fail "MineMemD")))
    k_with "subscriptTail" => (refine Hid.out ?_)
    k_steps
    rename Fr _ _ _ _ => F12
    refine nameX_L F12 hms2 ?_ (by rfl) (by rfl)
    k_steps
    unfold Hid
    rename News _ _ _ _ => N12
    refine item_side N12 (.tail _ (.tail _ (.tail _ (.tail _ hSD)))) DB1 DB2 ha ?_ (by with_unfolding_all rfl)
    intro vA hvA
    obtain ⟨z, ns, hn, hvA⟩ := hvA
    obtain ⟨t5, u1, u2, n5, rfl, hm5, hA5, hB5⟩ := invT2 hvA
    obtain ⟨xa, tv, tn, rfl, hmA, hDA⟩ := invL hA5
    obtain ⟨aa, av, an, rfl, hmB, hDB⟩ := invL hB5
    refine unpackN_ (items := #[.ref xa, .ref aa]) F12 N12 (N12.isTup (.tail _ (.tail _ (.tail _ (.tail _ hm5))))) rfl rfl rfl ?_
    intro h13 F13 N13
    refine assignInOrder_cons ?_
    refine wpAny_assign_Name ?_
    refine store_cellN ((I, oI) :: (s₁.heap.objs.size + 1 + 1, o2) :: (s₁.heap.objs.size + 1 + 1 + 1, o3) :: B2) F13 N13 (by rfl) (.tail _ (.head _)) d1 ?_ ?_ ?_ (by rfl) (by rfl)
    · intro p hp
      simp only [List.mem_cons] at hp ⊢
      grind
    · intro p hp
      rcases List.mem_cons.mp hp with rfl | hp
      · exact off1.symm
      rcases List.mem_cons.mp hp with rfl | hp
      · exact Nat.succ_ne_self _
      rcases List.mem_cons.mp hp with rfl | hp
      · exact Nat.ne_of_gt (Nat.lt_succ_of_lt (Nat.lt_succ_self _))
      · exact (offc p hp).1
    intro h14 o1' F14 N14 d1'
    refine assignInOrder_cons ?_
    refine wpAny_assign_Name ?_
    refine store_cellN ((s₁.heap.objs.size + 1, o1') :: (I, oI) :: (s₁.heap.objs.size + 1 + 1 + 1, o3) :: B2) F14 N14 (by rfl) (.tail _ (.tail _ (.head _))) d2 ?_ ?_ ?_ (by rfl) (by rfl)
    · intro p hp
      simp only [List.mem_cons] at hp ⊢
      grind
    · intro p hp
      rcases List.mem_cons.mp hp with rfl | hp
      · exact Nat.ne_of_lt (Nat.lt_succ_self _)
      rcases List.mem_cons.mp hp with rfl | hp
      · exact off2.symm
      rcases List.mem_cons.mp hp with rfl | hp
      · exact Nat.succ_ne_self _
      · exact (offc p hp).2.1
    intro h15 o2' F15 N15 d2'
    refine assignInOrder_nil ?_
    clear F12 N12 F13 N13 F14 N14 hvA hA5 hB5 hm5 d1 d2
    dsimp only
    k_with_none
    k_with "MineMem" => (first | (with_reducible assumption) | (with_reducible exact List.mem_cons_self) | ((with_reducible refine List.mem_append.mpr (Or.inl ?_)); walk_at "MineMem") | ((with_reducible refine List.mem_append.mpr (Or.inr ?_)); walk_at "MineMem") | ((with_reducible refine List.mem_cons_of_mem _ ?_); walk_at "MineMem"))
    k_with "eval ListComp" => ((k_here; k_dflt (refine LCg.ListComp_U (F₀ := by k_asm) (by with_unfolding_all rfl) (by decide) (by rfl) (by decide) (by rfl) ?_)))
    k_with "MineItem" => (first | exact DatIn.none | exact DatIn.bool _ | exact DatIn.int _ _ | exact DatIn.str _ _ | assumption | (refine DatIn.mono ?_ (by assumption); (intro p hp; (try simp only [List.mem_append, List.mem_cons] at hp ⊢); grind)))
    k_with "MineLt" => (first | assumption | exact allLt_of (by assumption) | tbn_find | (simp only [AllLt, and_true]; tbn_conj))
    k_with "MineTup" => ((refine DatIn.tuple (List.mem_append.mpr (Or.inr (List.Mem.head _))) ?_; repeat' (first | exact DatAll.nil | refine DatAll.cons ?_ ?_ | walk_at "MineItem")))
    k_with "TurnEnd" => ((refine TurnEnd.intro [(_, _)] (by assumption) (tl1 (by assumption)) (off1 (by walk_at "MineLt")) (by walk_at "MineTup")))
    k_with "MineSub" => (first | exact fun _ h => h | assumption | (intro p hp; first | (exact List.Mem.tail _ (by assumption)) | (simp only [List.mem_append, List.mem_cons, List.not_mem_nil, or_false] at hp ⊢; grind)))
    k_with "subscriptTail" => ((k_here; (with_reducible show wpAny _ _ (subscriptTail _ _ (Value.ref _) (Value.int _ _)) _ _ _); k_dflt (refine' item_tupleT ?mwt ?mwa ?mwb ?mwc ?mwd ?_; (case mwt => exact News.isTup (by k_asm) (by walk_at "MineMem")); (case mwa => decide); (case mwb => decide); (case mwc => rfl); (case mwd => rfl); k_whole)))
    k_with "MineRoom" => (first | assumption | ktr_room | (dsimp only [ktrTop, Around.deeper, Around.in1] at *; simp only [recursionLimit] at *; omega))
    k_with "MineUnits" => (first | ktr_units | (have hcL9 := cLine_is; dsimp only [ktrTop, Around.deeper, Around.in1] at *; omega))
    k_with "And" => (((with_reducible show WrapAt _ _ ∧ _); k_dflt (refine ⟨WrapAt.of (by k_asm) (by walk_at "MineMemD"), ?_⟩); (try dsimp only [List.nil_append, List.cons_append])))
    k_with "eval Name" => ((k_here; (with_reducible show wpAny _ _ (eval (Expr.Name _ _) (compEnvC _ _ _ _)) _ _ _); k_dflt (first | refine LCgL.ld_own (by k_asm) (by walk_at "MineMem") (by assumption) (by assumption) ?_ | refine LCgL.ld_global (by k_asm) (by k_asm) (by k_asm) (by k_is) ?_ | refine LCgL.ld_built (by k_asm) (by k_asm) (by k_asm) (by k_is) (by boot_by_name) (by decide) ?_)))
    k_with "MineMemD" => ((repeat' (first | assumption | exact List.mem_cons_self | (refine List.mem_cons_of_mem _ ?_) | (refine List.mem_append.mpr (Or.inl ?_)) | fail "MineMemD")))
    k_with "subscriptTail" => (refine Hid.out ?_)
    k_steps
    refine nameX_L F15 hms2 ?_ (by rfl) (by rfl)
    k_steps
    unfold Hid
    refine item_side N15 (.tail _ (.tail _ (.tail _ (.tail _ hSD)))) DB1 DB2 hb ?_ (by with_unfolding_all rfl)
    intro vB hvB
    obtain ⟨z', ns', hn', hvB⟩ := hvB
    obtain ⟨t6, u3, u4, n6, rfl, hm6, hA6, hB6⟩ := invT2 hvB
    obtain ⟨wa, wv, wn, rfl, hmA2, hDA2⟩ := invL hA6
    obtain ⟨oa, ov, on, rfl, hmB2, hDB2⟩ := invL hB6
    refine unpackN_ (items := #[.ref wa, .ref oa]) F15 N15 (N15.isTup (.tail _ (.tail _ (.tail _ (.tail _ hm6))))) rfl rfl rfl ?_
    intro h16 F16 N16
    clear F15 N15
    refine assignInOrder_cons ?_
    k_with_none
    k_with "MineMem" => (first | (with_reducible assumption) | (with_reducible exact List.mem_cons_self) | ((with_reducible refine List.mem_append.mpr (Or.inl ?_)); walk_at "MineMem") | ((with_reducible refine List.mem_append.mpr (Or.inr ?_)); walk_at "MineMem") | ((with_reducible refine List.mem_cons_of_mem _ ?_); walk_at "MineMem"))
    k_with "eval ListComp" => ((k_here; k_dflt (refine LCg.ListComp_U (F₀ := by k_asm) (by with_unfolding_all rfl) (by decide) (by rfl) (by decide) (by rfl) ?_)))
    k_with "MineItem" => (first | exact DatIn.none | exact DatIn.bool _ | exact DatIn.int _ _ | exact DatIn.str _ _ | assumption | (refine DatIn.mono ?_ (by assumption); (intro p hp; (try simp only [List.mem_append, List.mem_cons] at hp ⊢); grind)))
    k_with "MineLt" => (first | assumption | exact allLt_of (by assumption) | tbn_find | (simp only [AllLt, and_true]; tbn_conj))
    k_with "MineTup" => ((refine DatIn.tuple (List.mem_append.mpr (Or.inr (List.Mem.head _))) ?_; repeat' (first | exact DatAll.nil | refine DatAll.cons ?_ ?_ | walk_at "MineItem")))
    k_with "TurnEnd" => ((refine TurnEnd.intro [(_, _)] (by assumption) (tl1 (by assumption)) (off1 (by walk_at "MineLt")) (by walk_at "MineTup")))
    k_with "MineSub" => (first | exact fun _ h => h | assumption | (intro p hp; first | (exact List.Mem.tail _ (by assumption)) | (simp only [List.mem_append, List.mem_cons, List.not_mem_nil, or_false] at hp ⊢; grind)))
    k_with "subscriptTail" => ((k_here; (with_reducible show wpAny _ _ (subscriptTail _ _ (Value.ref _) (Value.int _ _)) _ _ _); k_dflt (refine' item_tupleT ?mwt ?mwa ?mwb ?mwc ?mwd ?_; (case mwt => exact News.isTup (by k_asm) (by walk_at "MineMem")); (case mwa => decide); (case mwb => decide); (case mwc => rfl); (case mwd => rfl); k_whole)))
    k_with "MineRoom" => (first | assumption | ktr_room | (dsimp only [ktrTop, Around.deeper, Around.in1] at *; simp only [recursionLimit] at *; omega))
    k_with "MineUnits" => (first | ktr_units | (have hcL9 := cLine_is; dsimp only [ktrTop, Around.deeper, Around.in1] at *; omega))
    k_with "And" => (((with_reducible show WrapAt _ _ ∧ _); k_dflt (refine ⟨WrapAt.of (by k_asm) (by walk_at "MineMemD"), ?_⟩); (try dsimp only [List.nil_append, List.cons_append])))
    k_with "eval Name" => ((k_here; (with_reducible show wpAny _ _ (eval (Expr.Name _ _) (compEnvC _ _ _ _)) _ _ _); k_dflt (first | refine LCgL.ld_own (by k_asm) (by walk_at "MineMem") (by assumption) (by assumption) ?_ | refine LCgL.ld_global (by k_asm) (by k_asm) (by k_asm) (by k_is) ?_ | refine LCgL.ld_built (by k_asm) (by k_asm) (by k_asm) (by k_is) (by boot_by_name) (by decide) ?_)))
    k_with "MineMemD" => ((repeat' (first | assumption | exact List.mem_cons_self | (refine List.mem_cons_of_mem _ ?_) | (refine List.mem_append.mpr (Or.inl ?_)) | fail "MineMemD")))
    k_with "storeName" => ((with_reducible show wpAny _ _ (storeName _ (Str.ofString "without") _) _ _ _); refine Hid.out ?_)
    k_steps
    rename Fr _ _ _ _ => F17
    rename News _ _ _ _ => N17
    unfold Hid
    refine store_cellN ((I, oI) :: (s₁.heap.objs.size + 1, o1') :: (s₁.heap.objs.size + 1 + 1, o2') :: B2) F17 N17 (by rfl) (by walk_at "MineMem") d3 ?_ ?_ ?_ (by rfl) (by rfl)
    · intro p hp
      simp only [List.mem_cons] at hp ⊢
      grind
    · intro p hp
      rcases List.mem_cons.mp hp with rfl | hp
      · exact off3.symm
      rcases List.mem_cons.mp hp with rfl | hp
      · exact Nat.ne_of_lt (Nat.lt_succ_of_lt (Nat.lt_succ_self _))
      rcases List.mem_cons.mp hp with rfl | hp
      · exact Nat.ne_of_lt (Nat.lt_succ_self _)
      · exact (offc p hp).2.2
    intro h18 o3' F18 N18 d3'
    refine assignInOrder_nil ?_
    clear F17 N17 hvB hA6 hB6 hm6 d3
    obtain ⟨L0, hL0'⟩ : ∃ l, l = (s₁.heap.objs.size + 1, o1') :: (s₁.heap.objs.size + 1 + 1, o2') :: (s₁.heap.objs.size + 1 + 1 + 1, o3') :: (I, oI) :: B2 := ⟨_, rfl⟩
    replace N18 : News s₁.heap s₁.heap.objs.size h18 L0 := newsIn N18 (by
      subst hL0'
      intro p hp
      simp only [List.mem_cons] at hp ⊢
      grind)
    have hc1 : (s₁.heap.objs.size + 1, o1') ∈ L0 := by rw [hL0']; exact .head _
    have hc2 : (s₁.heap.objs.size + 1 + 1, o2') ∈ L0 := by rw [hL0']; exact .tail _ (.head _)
    have hc3 : (s₁.heap.objs.size + 1 + 1 + 1, o3') ∈ L0 := by rw [hL0']; exact .tail _ (.tail _ (.head _))
    have hBL : ∀ p ∈ B2, p ∈ L0 := fun p hp => by rw [hL0']; exact .tail _ (.tail _ (.tail _ (.tail _ hp)))
    have hnA := hBL _ hmA
    have hnB := hBL _ hmB
    have hnA2 := hBL _ hmA2
    have hnB2 := hBL _ hmB2
    have htl : tv.length = (numsS z ns).length := by have q := hDA.length; rw [List.length_map] at q; exact q
    have hal : av.length = (numsS z ns).length := by have q := hDB.length; rw [List.length_map] at q; exact q
    have hnl := nums_len (z := z) hn
    have hts : tv.toArray.size = (numsS z ns).length := by rw [List.size_toArray]; exact htl
    k_with_none
    k_with "MineMem" => (first | (with_reducible assumption) | (with_reducible exact List.mem_cons_self) | ((with_reducible refine List.mem_append.mpr (Or.inl ?_)); walk_at "MineMem") | ((with_reducible refine List.mem_append.mpr (Or.inr ?_)); walk_at "MineMem") | ((with_reducible refine List.mem_cons_of_mem _ ?_); walk_at "MineMem"))
    k_with "eval ListComp" => ((k_here; k_dflt (refine LCg.ListComp_U (F₀ := by k_asm) (by with_unfolding_all rfl) (by decide) (by rfl) (by decide) (by rfl) ?_)))
    k_with "MineItem" => (first | exact DatIn.none | exact DatIn.bool _ | exact DatIn.int _ _ | exact DatIn.str _ _ | assumption | (refine DatIn.mono ?_ (by assumption); (intro p hp; (try simp only [List.mem_append, List.mem_cons] at hp ⊢); grind)))
    k_with "MineLt" => (first | assumption | exact allLt_of (by assumption) | tbn_find | (simp only [AllLt, and_true]; tbn_conj))
    k_with "MineTup" => ((refine DatIn.tuple (List.mem_append.mpr (Or.inr (List.Mem.head _))) ?_; repeat' (first | exact DatAll.nil | refine DatAll.cons ?_ ?_ | walk_at "MineItem")))
    k_with "TurnEnd" => ((refine TurnEnd.intro [(_, _)] (by assumption) (tl1 (by assumption)) (off1 (by walk_at "MineLt")) (by walk_at "MineTup")))
    k_with "MineSub" => (first | exact fun _ h => h | assumption | (intro p hp; first | (exact List.Mem.tail _ (by assumption)) | (simp only [List.mem_append, List.mem_cons, List.not_mem_nil, or_false] at hp ⊢; grind)))
    k_with "subscriptTail" => ((k_here; (with_reducible show wpAny _ _ (subscriptTail _ _ (Value.ref _) (Value.int _ _)) _ _ _); k_dflt (refine' item_tupleT ?mwt ?mwa ?mwb ?mwc ?mwd ?_; (case mwt => exact News.isTup (by k_asm) (by walk_at "MineMem")); (case mwa => decide); (case mwb => decide); (case mwc => rfl); (case mwd => rfl); k_whole)))
    k_with "MineRoom" => (first | assumption | ktr_room | (dsimp only [ktrTop, Around.deeper, Around.in1] at *; simp only [recursionLimit] at *; omega))
    k_with "MineUnits" => (first | ktr_units | (have hcL9 := cLine_is; dsimp only [ktrTop, Around.deeper, Around.in1] at *; omega))
    k_with "And" => (((with_reducible show WrapAt _ _ ∧ _); k_dflt (refine ⟨WrapAt.of (by k_asm) (by walk_at "MineMemD"), ?_⟩); (try dsimp only [List.nil_append, List.cons_append])))
    k_with "eval Name" => ((k_here; (with_reducible show wpAny _ _ (eval (Expr.Name _ _) (compEnvC _ _ _ _)) _ _ _); k_dflt (first | refine LCgL.ld_own (by k_asm) (by walk_at "MineMem") (by assumption) (by assumption) ?_ | refine LCgL.ld_global (by k_asm) (by k_asm) (by k_asm) (by k_is) ?_ | refine LCgL.ld_built (by k_asm) (by k_asm) (by k_asm) (by k_is) (by boot_by_name) (by decide) ?_)))
    k_with "MineMemD" => ((repeat' (first | assumption | exact List.mem_cons_self | (refine List.mem_cons_of_mem _ ?_) | (refine List.mem_append.mpr (Or.inl ?_)) | fail "MineMemD")))
    k_with "exec Assign cons ListComp" => (refine Hid.out ?_)
    k_steps
    unfold Hid
    refine LCt.Assign_ListComp_T (F₀ := F18) (by rfl) (by with_unfolding_all rfl) (by with_unfolding_all rfl) (by decide) (by rfl) (by decide) (by rfl) (by rfl) (by rfl) ?_
    k_with_none
    k_with "MineMem" => (first | (with_reducible assumption) | (with_reducible exact List.mem_cons_self) | ((with_reducible refine List.mem_append.mpr (Or.inl ?_)); walk_at "MineMem") | ((with_reducible refine List.mem_append.mpr (Or.inr ?_)); walk_at "MineMem") | ((with_reducible refine List.mem_cons_of_mem _ ?_); walk_at "MineMem"))
    k_with "eval ListComp" => ((k_here; k_dflt (refine LCg.ListComp_U (F₀ := by k_asm) (by with_unfolding_all rfl) (by decide) (by rfl) (by decide) (by rfl) ?_)))
    k_with "MineItem" => (first | exact DatIn.none | exact DatIn.bool _ | exact DatIn.int _ _ | exact DatIn.str _ _ | assumption | (refine DatIn.mono ?_ (by assumption); (intro p hp; (try simp only [List.mem_append, List.mem_cons] at hp ⊢); grind)))
    k_with "MineLt" => (first | assumption | exact allLt_of (by assumption) | tbn_find | (simp only [AllLt, and_true]; tbn_conj))
    k_with "MineTup" => ((refine DatIn.tuple (List.mem_append.mpr (Or.inr (List.Mem.head _))) ?_; repeat' (first | exact DatAll.nil | refine DatAll.cons ?_ ?_ | walk_at "MineItem")))
    k_with "TurnEnd" => ((refine TurnEnd.intro [(_, _)] (by assumption) (tl1 (by assumption)) (off1 (by walk_at "MineLt")) (by walk_at "MineTup")))
    k_with "MineSub" => (first | exact fun _ h => h | assumption | (intro p hp; first | (exact List.Mem.tail _ (by assumption)) | (simp only [List.mem_append, List.mem_cons, List.not_mem_nil, or_false] at hp ⊢; grind)))
    k_with "subscriptTail" => ((k_here; (with_reducible show wpAny _ _ (subscriptTail _ _ (Value.ref _) (Value.int _ _)) _ _ _); k_dflt (refine' item_tupleT ?mwt ?mwa ?mwb ?mwc ?mwd ?_; (case mwt => exact News.isTup (by k_asm) (by walk_at "MineMem")); (case mwa => decide); (case mwb => decide); (case mwc => rfl); (case mwd => rfl); k_whole)))
    k_with "MineRoom" => (first | assumption | ktr_room | (dsimp only [ktrTop, Around.deeper, Around.in1] at *; simp only [recursionLimit] at *; omega))
    k_with "MineUnits" => (first | ktr_units | (have hcL9 := cLine_is; dsimp only [ktrTop, Around.deeper, Around.in1] at *; omega))
    k_with "And" => (((with_reducible show WrapAt _ _ ∧ _); k_dflt (refine ⟨WrapAt.of (by k_asm) (by walk_at "MineMemD"), ?_⟩); (try dsimp only [List.nil_append, List.cons_append])))
    k_with "eval Name" => ((k_here; (with_reducible show wpAny _ _ (eval (Expr.Name _ _) (compEnvC _ _ _ _)) _ _ _); k_dflt (first | refine LCgL.ld_own (by k_asm) (by walk_at "MineMem") (by assumption) (by assumption) ?_ | refine LCgL.ld_global (by k_asm) (by k_asm) (by k_asm) (by k_is) ?_ | refine LCgL.ld_built (by k_asm) (by k_asm) (by k_asm) (by k_is) (by boot_by_name) (by decide) ?_)))
    k_with "MineMemD" => ((repeat' (first | assumption | exact List.mem_cons_self | (refine List.mem_cons_of_mem _ ?_) | (refine List.mem_append.mpr (Or.inl ?_)) | fail "MineMemD")))
    k_with "eval Name" => ((with_reducible show wpAny _ _ (eval (Expr.Name _ _) (envOfC _ _ _ _ _)) _ _ _); k_dflt (refine nameX_C (by k_asm) (by rfl) hc1 d1' ?_ (by rfl) (by rfl)))
    k_with "call builtin:len" => (k_dflt (refine len_list (isL (by k_asm) (by walk_at "MineMem" : (xa, W.listOf tv.toArray tn) ∈ _)) (by rw [hts]; omega) ?_))
    k_with "call type:range" => (refine Hid.out ?_)
    k_with "CompSrcT" => (refine Hid.out ?_)
    k_steps
    unfold Hid
    rw [hts]
    refine range1_rows (by k_asm) (by k_asm) ?_
    intro h20 tk20 t1 u1 v1 hr20 F20 N20 up20
    clear F18 N18
    refine LCt.CompSrcT.range (n := (numsS z ns).length) (by rfl) F20 N20 hr20 (small_one (by decide) (by decide) (by omega) (by omega)) (by rw [rangeSize_nat]; omega) (by rw [sizeLine_eq]; omega) ?_
    intro g20
    refine comp_restT (sub := []) (n := (numsS z ns).length) (tst := keptI z ns z' ns') (dec := fun k => Dat.str (textS z ((numsS z ns).getD k 0))) (fun _ h => nomatch h) ?test ?turn5 ?fin5
    case' test =>
      clear F20 N20 up20
      intro k t I' oI' C oC D m₂ ys tl h tk E' hk hC hx F' N'
      have hkl : k < av.length := by omega
      obtain ⟨c, hc, hDv⟩ := datAll_get hDB (List.getElem?_eq_getElem hkl)
      have hcg : (numsS z ns).getD k 0 = c := by rw [List.getD, hc]; rfl
      k_with_none
      k_with "MineMem" => (first | (with_reducible assumption) | (with_reducible exact List.mem_cons_self) | ((with_reducible refine List.mem_append.mpr (Or.inl ?_)); walk_at "MineMem") | ((with_reducible refine List.mem_append.mpr (Or.inr ?_)); walk_at "MineMem") | ((with_reducible refine List.mem_cons_of_mem _ ?_); walk_at "MineMem"))
      k_with "eval ListComp" => ((k_here; k_dflt (refine LCg.ListComp_U (F₀ := by k_asm) (by with_unfolding_all rfl) (by decide) (by rfl) (by decide) (by rfl) ?_)))
      k_with "MineItem" => (first | exact DatIn.none | exact DatIn.bool _ | exact DatIn.int _ _ | exact DatIn.str _ _ | assumption | (refine DatIn.mono ?_ (by assumption); (intro p hp; (try simp only [List.mem_append, List.mem_cons] at hp ⊢); grind)))
      k_with "MineLt" => (first | assumption | exact allLt_of (by assumption) | tbn_find | (simp only [AllLt, and_true]; tbn_conj))
      k_with "MineTup" => ((refine DatIn.tuple (List.mem_append.mpr (Or.inr (List.Mem.head _))) ?_; repeat' (first | exact DatAll.nil | refine DatAll.cons ?_ ?_ | walk_at "MineItem")))
      k_with "TurnEnd" => ((refine TurnEnd.intro [(_, _)] (by assumption) (tl1 (by assumption)) (off1 (by walk_at "MineLt")) (by walk_at "MineTup")))
      k_with "MineSub" => (first | exact fun _ h => h | assumption | (intro p hp; first | (exact List.Mem.tail _ (by assumption)) | (simp only [List.mem_append, List.mem_cons, List.not_mem_nil, or_false] at hp ⊢; grind)))
      k_with "subscriptTail" => ((k_here; (with_reducible show wpAny _ _ (subscriptTail _ _ (Value.ref _) (Value.int _ _)) _ _ _); k_dflt (refine' item_tupleT ?mwt ?mwa ?mwb ?mwc ?mwd ?_; (case mwt => exact News.isTup (by k_asm) (by walk_at "MineMem")); (case mwa => decide); (case mwb => decide); (case mwc => rfl); (case mwd => rfl); k_whole)))
      k_with "MineRoom" => (first | assumption | ktr_room | (dsimp only [ktrTop, Around.deeper, Around.in1] at *; simp only [recursionLimit] at *; omega))
      k_with "MineUnits" => (first | ktr_units | (have hcL9 := cLine_is; dsimp only [ktrTop, Around.deeper, Around.in1] at *; omega))
      k_with "And" => (((with_reducible show WrapAt _ _ ∧ _); k_dflt (refine ⟨WrapAt.of (by k_asm) (by walk_at "MineMemD"), ?_⟩); (try dsimp only [List.nil_append, List.cons_append])))
      k_with "eval Name" => ((k_here; (with_reducible show wpAny _ _ (eval (Expr.Name _ _) (compEnvC _ _ _ _)) _ _ _); k_dflt (first | refine LCgL.ld_own (by k_asm) (by walk_at "MineMem") (by assumption) (by assumption) ?_ | refine LCgL.ld_global (by k_asm) (by k_asm) (by k_asm) (by k_is) ?_ | refine LCgL.ld_built (by k_asm) (by k_asm) (by k_asm) (by k_is) (by boot_by_name) (by decide) ?_)))
      k_with "MineMemD" => ((repeat' (first | assumption | exact List.mem_cons_self | (refine List.mem_cons_of_mem _ ?_) | (refine List.mem_append.mpr (Or.inl ?_)) | fail "MineMemD")))
      k_with "eval Name" => ((with_reducible show wpAny _ _ (eval (Expr.Name _ _) (compEnvC _ _ _ _)) _ _ _); k_dflt (refine lcf_cell (by k_asm) (by rfl) (by walk_at "MineMem") d2' ?_ (by rfl) (by rfl)))
      k_with "eval Name" => ((with_reducible show wpAny _ _ (eval (Expr.Name _ _) (compEnvC _ _ _ _)) _ _ _); k_dflt (refine lcf_cell (by k_asm) (by rfl) (by walk_at "MineMem") d3' ?_ (by rfl) (by rfl)))
      k_with "subscriptTail Name Name ref int" => (refine Hid.out ?_)
      k_with "compareOp NotIn" => (refine Hid.out ?_)
      k_steps
      unfold Hid
      refine item_list (x := av[k]) (isL (by k_asm) (by walk_at "MineMem" : (aa, W.listOf av.toArray an) ∈ _)) (by omega) (by omega) (by rw [Int.toNat_natCast]; simp [hkl]) ?_
      k_steps
      unfold Hid
      refine' d_notIn (by k_asm) hDv ?sa5 (DatIn.list hnB2 (DatAll.mono hBL hDB2)) ?sb5 numl_ok ?oo5 ?hu5 ?_
      case sa5 => intro p hp; have := hBL p hp; simp only [List.mem_append, List.mem_cons]; simp only [this, true_or, or_true]
      case sb5 => intro p hp; simp only [List.mem_append, List.mem_cons]; simp only [hp, true_or, or_true]
      case oo5 => exact shown_ok
      case hu5 => first | units_room | walk_at "MineUnits"
      k_steps
      · unfold keptI shownZ
        rw [hcg]
      · exact F'
      · exact N'
    case' turn5 =>
      clear F20 N20 up20
      intro k t I' oI' C oC D m₂ ys tl h tk E' hk _ hC hx F' N'
      have hkl : k < tv.length := by omega
      obtain ⟨c, hc, hDv⟩ := datAll_get (enc := fun n => Dat.str (textS z n)) hDA (List.getElem?_eq_getElem hkl)
      have hcg : (numsS z ns).getD k 0 = c := by rw [List.getD, hc]; rfl
      k_with_none
      k_with "MineMem" => (first | (with_reducible assumption) | (with_reducible exact List.mem_cons_self) | ((with_reducible refine List.mem_append.mpr (Or.inl ?_)); walk_at "MineMem") | ((with_reducible refine List.mem_append.mpr (Or.inr ?_)); walk_at "MineMem") | ((with_reducible refine List.mem_cons_of_mem _ ?_); walk_at "MineMem"))
      k_with "eval ListComp" => ((k_here; k_dflt (refine LCg.ListComp_U (F₀ := by k_asm) (by with_unfolding_all rfl) (by decide) (by rfl) (by decide) (by rfl) ?_)))
      k_with "MineItem" => (first | exact DatIn.none | exact DatIn.bool _ | exact DatIn.int _ _ | exact DatIn.str _ _ | assumption | (refine DatIn.mono ?_ (by assumption); (intro p hp; (try simp only [List.mem_append, List.mem_cons] at hp ⊢); grind)))
      k_with "MineLt" => (first | assumption | exact allLt_of (by assumption) | tbn_find | (simp only [AllLt, and_true]; tbn_conj))
      k_with "MineTup" => ((refine DatIn.tuple (List.mem_append.mpr (Or.inr (List.Mem.head _))) ?_; repeat' (first | exact DatAll.nil | refine DatAll.cons ?_ ?_ | walk_at "MineItem")))
      k_with "TurnEnd" => ((refine TurnEnd.intro [(_, _)] (by assumption) (tl1 (by assumption)) (off1 (by walk_at "MineLt")) (by walk_at "MineTup")))
      k_with "MineSub" => (first | exact fun _ h => h | assumption | (intro p hp; first | (exact List.Mem.tail _ (by assumption)) | (simp only [List.mem_append, List.mem_cons, List.not_mem_nil, or_false] at hp ⊢; grind)))
      k_with "subscriptTail" => ((k_here; (with_reducible show wpAny _ _ (subscriptTail _ _ (Value.ref _) (Value.int _ _)) _ _ _); k_dflt (refine' item_tupleT ?mwt ?mwa ?mwb ?mwc ?mwd ?_; (case mwt => exact News.isTup (by k_asm) (by walk_at "MineMem")); (case mwa => decide); (case mwb => decide); (case mwc => rfl); (case mwd => rfl); k_whole)))
      k_with "MineRoom" => (first | assumption | ktr_room | (dsimp only [ktrTop, Around.deeper, Around.in1] at *; simp only [recursionLimit] at *; omega))
      k_with "MineUnits" => (first | ktr_units | (have hcL9 := cLine_is; dsimp only [ktrTop, Around.deeper, Around.in1] at *; omega))
      k_with "And" => (((with_reducible show WrapAt _ _ ∧ _); k_dflt (refine ⟨WrapAt.of (by k_asm) (by walk_at "MineMemD"), ?_⟩); (try dsimp only [List.nil_append, List.cons_append])))
      k_with "eval Name" => ((k_here; (with_reducible show wpAny _ _ (eval (Expr.Name _ _) (compEnvC _ _ _ _)) _ _ _); k_dflt (first | refine LCgL.ld_own (by k_asm) (by walk_at "MineMem") (by assumption) (by assumption) ?_ | refine LCgL.ld_global (by k_asm) (by k_asm) (by k_asm) (by k_is) ?_ | refine LCgL.ld_built (by k_asm) (by k_asm) (by k_asm) (by k_is) (by boot_by_name) (by decide) ?_)))
      k_with "MineMemD" => ((repeat' (first | assumption | exact List.mem_cons_self | (refine List.mem_cons_of_mem _ ?_) | (refine List.mem_append.mpr (Or.inl ?_)) | fail "MineMemD")))
      k_with "eval Name" => ((with_reducible show wpAny _ _ (eval (Expr.Name _ _) (compEnvC _ _ _ _)) _ _ _); k_dflt (refine lcf_cell (by k_asm) (by rfl) (by walk_at "MineMem") d1' ?_ (by rfl) (by rfl)))
      k_with "subscriptTail Name Name ref int" => (refine Hid.out ?_)
      k_steps
      unfold Hid
      refine item_list (x := tv[k]) (isL (by k_asm) (by walk_at "MineMem" : (xa, W.listOf tv.toArray tn) ∈ _)) (by omega) (by omega) (by rw [Int.toNat_natCast]; simp [hkl]) ?_
      refine ⟨_, _, [], rfl, F', tl0 N', off0, ?_⟩
      rw [hcg]
      exact datIn_flat hDv rfl
    case' fin5 =>
    intro ys9 e9 o9 D9
    rw [due_told] at D9
    clear F20 N20 up20
    intro S9 h21 tk21 F21 N21 l21
    dsimp only
    k_with_none
    k_with "MineMem" => (first | (with_reducible assumption) | (with_reducible exact List.mem_cons_self) | ((with_reducible refine List.mem_append.mpr (Or.inl ?_)); walk_at "MineMem") | ((with_reducible refine List.mem_append.mpr (Or.inr ?_)); walk_at "MineMem") | ((with_reducible refine List.mem_cons_of_mem _ ?_); walk_at "MineMem"))
    k_with "eval ListComp" => ((k_here; k_dflt (refine LCg.ListComp_U (F₀ := by k_asm) (by with_unfolding_all rfl) (by decide) (by rfl) (by decide) (by rfl) ?_)))
    k_with "MineItem" => (first | exact DatIn.none | exact DatIn.bool _ | exact DatIn.int _ _ | exact DatIn.str _ _ | assumption | (refine DatIn.mono ?_ (by assumption); (intro p hp; (try simp only [List.mem_append, List.mem_cons] at hp ⊢); grind)))
    k_with "MineLt" => (first | assumption | exact allLt_of (by assumption) | tbn_find | (simp only [AllLt, and_true]; tbn_conj))
    k_with "MineTup" => ((refine DatIn.tuple (List.mem_append.mpr (Or.inr (List.Mem.head _))) ?_; repeat' (first | exact DatAll.nil | refine DatAll.cons ?_ ?_ | walk_at "MineItem")))
    k_with "TurnEnd" => ((refine TurnEnd.intro [(_, _)] (by assumption) (tl1 (by assumption)) (off1 (by walk_at "MineLt")) (by walk_at "MineTup")))
    k_with "MineSub" => (first | exact fun _ h => h | assumption | (intro p hp; first | (exact List.Mem.tail _ (by assumption)) | (simp only [List.mem_append, List.mem_cons, List.not_mem_nil, or_false] at hp ⊢; grind)))
    k_with "subscriptTail" => ((k_here; (with_reducible show wpAny _ _ (subscriptTail _ _ (Value.ref _) (Value.int _ _)) _ _ _); k_dflt (refine' item_tupleT ?mwt ?mwa ?mwb ?mwc ?mwd ?_; (case mwt => exact News.isTup (by k_asm) (by walk_at "MineMem")); (case mwa => decide); (case mwb => decide); (case mwc => rfl); (case mwd => rfl); k_whole)))
    k_with "MineRoom" => (first | assumption | ktr_room | (dsimp only [ktrTop, Around.deeper, Around.in1] at *; simp only [recursionLimit] at *; omega))
    k_with "MineUnits" => (first | ktr_units | (have hcL9 := cLine_is; dsimp only [ktrTop, Around.deeper, Around.in1] at *; omega))
    k_with "And" => (((with_reducible show WrapAt _ _ ∧ _); k_dflt (refine ⟨WrapAt.of (by k_asm) (by walk_at "MineMemD"), ?_⟩); (try dsimp only [List.nil_append, List.cons_append])))
    k_with "eval Name" => ((k_here; (with_reducible show wpAny _ _ (eval (Expr.Name _ _) (compEnvC _ _ _ _)) _ _ _); k_dflt (first | refine LCgL.ld_own (by k_asm) (by walk_at "MineMem") (by assumption) (by assumption) ?_ | refine LCgL.ld_global (by k_asm) (by k_asm) (by k_asm) (by k_is) ?_ | refine LCgL.ld_built (by k_asm) (by k_asm) (by k_asm) (by k_is) (by boot_by_name) (by decide) ?_)))
    k_with "MineMemD" => ((repeat' (first | assumption | exact List.mem_cons_self | (refine List.mem_cons_of_mem _ ?_) | (refine List.mem_append.mpr (Or.inl ?_)) | fail "MineMemD")))
    k_with "eval Name" => ((with_reducible show wpAny _ _ (eval (Expr.Name _ _) (envOfC _ _ _ _ _)) _ _ _); k_dflt (refine nameX_C (by k_asm) (by rfl) (by walk_at "MineMem") d1' ?_ (by rfl) (by rfl)))
    k_with "call ref" => (refine Hid.out ?_)
    k_steps
    unfold Hid
    refine' tel_use0 (sub := B2) (filter_tel (toldZ z ns) (toldZ z' ns') told_ok told_ok (told_len hn)) (by k_asm) (by k_asm) (by k_asm) (by k_asm) (by k_asm) (by first | exact rfl | assumption) (fun p hp => .tail _ (List.mem_append.mpr (.inl (hBL p hp)))) (DatAll.cons (DatIn.list hmA hDA) (DatAll.cons (DatIn.list hmA2 hDA2) .nil)) (by walk_at "MineRoom") (by walk_at "MineUnits") ?_
    intro r22 e22 h22 tk22 F22 N22 o22 D22
    clear F21 N21
    dsimp only
    k_with_none
    k_with "MineMem" => (first | (with_reducible assumption) | (with_reducible exact List.mem_cons_self) | ((with_reducible refine List.mem_append.mpr (Or.inl ?_)); walk_at "MineMem") | ((with_reducible refine List.mem_append.mpr (Or.inr ?_)); walk_at "MineMem") | ((with_reducible refine List.mem_cons_of_mem _ ?_); walk_at "MineMem"))
    k_with "eval ListComp" => ((k_here; k_dflt (refine LCg.ListComp_U (F₀ := by k_asm) (by with_unfolding_all rfl) (by decide) (by rfl) (by decide) (by rfl) ?_)))
    k_with "MineItem" => (first | exact DatIn.none | exact DatIn.bool _ | exact DatIn.int _ _ | exact DatIn.str _ _ | assumption | (refine DatIn.mono ?_ (by assumption); (intro p hp; (try simp only [List.mem_append, List.mem_cons] at hp ⊢); grind)))
    k_with "MineLt" => (first | assumption | exact allLt_of (by assumption) | tbn_find | (simp only [AllLt, and_true]; tbn_conj))
    k_with "MineTup" => ((refine DatIn.tuple (List.mem_append.mpr (Or.inr (List.Mem.head _))) ?_; repeat' (first | exact DatAll.nil | refine DatAll.cons ?_ ?_ | walk_at "MineItem")))
    k_with "TurnEnd" => ((refine TurnEnd.intro [(_, _)] (by assumption) (tl1 (by assumption)) (off1 (by walk_at "MineLt")) (by walk_at "MineTup")))
    k_with "MineSub" => (first | exact fun _ h => h | assumption | (intro p hp; first | (exact List.Mem.tail _ (by assumption)) | (simp only [List.mem_append, List.mem_cons, List.not_mem_nil, or_false] at hp ⊢; grind)))
    k_with "subscriptTail" => ((k_here; (with_reducible show wpAny _ _ (subscriptTail _ _ (Value.ref _) (Value.int _ _)) _ _ _); k_dflt (refine' item_tupleT ?mwt ?mwa ?mwb ?mwc ?mwd ?_; (case mwt => exact News.isTup (by k_asm) (by walk_at "MineMem")); (case mwa => decide); (case mwb => decide); (case mwc => rfl); (case mwd => rfl); k_whole)))
    k_with "MineRoom" => (first | assumption | ktr_room | (dsimp only [ktrTop, Around.deeper, Around.in1] at *; simp only [recursionLimit] at *; omega))
    k_with "MineUnits" => (first | ktr_units | (have hcL9 := cLine_is; dsimp only [ktrTop, Around.deeper, Around.in1] at *; omega))
    k_with "And" => (((with_reducible show WrapAt _ _ ∧ _); k_dflt (refine ⟨WrapAt.of (by k_asm) (by walk_at "MineMemD"), ?_⟩); (try dsimp only [List.nil_append, List.cons_append])))
    k_with "eval Name" => ((k_here; (with_reducible show wpAny _ _ (eval (Expr.Name _ _) (compEnvC _ _ _ _)) _ _ _); k_dflt (first | refine LCgL.ld_own (by k_asm) (by walk_at "MineMem") (by assumption) (by assumption) ?_ | refine LCgL.ld_global (by k_asm) (by k_asm) (by k_asm) (by k_is) ?_ | refine LCgL.ld_built (by k_asm) (by k_asm) (by k_asm) (by k_is) (by boot_by_name) (by decide) ?_)))
    k_with "MineMemD" => ((repeat' (first | assumption | exact List.mem_cons_self | (refine List.mem_cons_of_mem _ ?_) | (refine List.mem_append.mpr (Or.inl ?_)) | fail "MineMemD")))
    k_with "compareOp NotEq" => (refine Hid.out ?_)
    k_steps
    unfold Hid
    have D9' : DatAll ((S9, LCg.lst ys9) :: e9) ys9 ((toldZ z ns).filter (keptD (toldZ z' ns'))) := DatAll.mono (fun p hp => .tail _ hp) D9
    refine' d_ne (n₂ := (S9, LCg.lst ys9) :: e9) N22 D22 ?sn1 (DatIn.list (List.Mem.head _) D9') ?sn2 filt_okL filt_okL ?hu9 ?_
    case sn1 =>
      intro p hp
      rcases List.mem_append.mp hp with hp | hp
      · exact List.mem_append.mpr (.inl (.tail _ (List.mem_append.mpr (.inl (hBL p hp)))))
      · exact List.mem_append.mpr (.inr hp)
    case sn2 =>
      intro p hp
      refine List.mem_append.mpr (.inl ?_)
      rcases List.mem_cons.mp hp with rfl | hp
      · exact .head _
      · exact .tail _ (List.mem_append.mpr (.inr hp))
    case hu9 => first | units_room | walk_at "MineUnits"
    rw [list_self filt_str, Bool.not_true]
    k_with_none
    k_with "MineMem" => (first | (with_reducible assumption) | (with_reducible exact List.mem_cons_self) | ((with_reducible refine List.mem_append.mpr (Or.inl ?_)); walk_at "MineMem") | ((with_reducible refine List.mem_append.mpr (Or.inr ?_)); walk_at "MineMem") | ((with_reducible refine List.mem_cons_of_mem _ ?_); walk_at "MineMem"))
    k_with "eval ListComp" => ((k_here; k_dflt (refine LCg.ListComp_U (F₀ := by k_asm) (by with_unfolding_all rfl) (by decide) (by rfl) (by decide) (by rfl) ?_)))
    k_with "MineItem" => (first | exact DatIn.none | exact DatIn.bool _ | exact DatIn.int _ _ | exact DatIn.str _ _ | assumption | (refine DatIn.mono ?_ (by assumption); (intro p hp; (try simp only [List.mem_append, List.mem_cons] at hp ⊢); grind)))
    k_with "MineLt" => (first | assumption | exact allLt_of (by assumption) | tbn_find | (simp only [AllLt, and_true]; tbn_conj))
    k_with "MineTup" => ((refine DatIn.tuple (List.mem_append.mpr (Or.inr (List.Mem.head _))) ?_; repeat' (first | exact DatAll.nil | refine DatAll.cons ?_ ?_ | walk_at "MineItem")))
    k_with "TurnEnd" => ((refine TurnEnd.intro [(_, _)] (by assumption) (tl1 (by assumption)) (off1 (by walk_at "MineLt")) (by walk_at "MineTup")))
    k_with "MineSub" => (first | exact fun _ h => h | assumption | (intro p hp; first | (exact List.Mem.tail _ (by assumption)) | (simp only [List.mem_append, List.mem_cons, List.not_mem_nil, or_false] at hp ⊢; grind)))
    k_with "subscriptTail" => ((k_here; (with_reducible show wpAny _ _ (subscriptTail _ _ (Value.ref _) (Value.int _ _)) _ _ _); k_dflt (refine' item_tupleT ?mwt ?mwa ?mwb ?mwc ?mwd ?_; (case mwt => exact News.isTup (by k_asm) (by walk_at "MineMem")); (case mwa => decide); (case mwb => decide); (case mwc => rfl); (case mwd => rfl); k_whole)))
    k_with "MineRoom" => (first | assumption | ktr_room | (dsimp only [ktrTop, Around.deeper, Around.in1] at *; simp only [recursionLimit] at *; omega))
    k_with "MineUnits" => (first | ktr_units | (have hcL9 := cLine_is; dsimp only [ktrTop, Around.deeper, Around.in1] at *; omega))
    k_with "And" => (((with_reducible show WrapAt _ _ ∧ _); k_dflt (refine ⟨WrapAt.of (by k_asm) (by walk_at "MineMemD"), ?_⟩); (try dsimp only [List.nil_append, List.cons_append])))
    k_with "eval Name" => ((k_here; (with_reducible show wpAny _ _ (eval (Expr.Name _ _) (compEnvC _ _ _ _)) _ _ _); k_dflt (first | refine LCgL.ld_own (by k_asm) (by walk_at "MineMem") (by assumption) (by assumption) ?_ | refine LCgL.ld_global (by k_asm) (by k_asm) (by k_asm) (by k_is) ?_ | refine LCgL.ld_built (by k_asm) (by k_asm) (by k_asm) (by k_is) (by boot_by_name) (by decide) ?_)))
    k_with "MineMemD" => ((repeat' (first | assumption | exact List.mem_cons_self | (refine List.mem_cons_of_mem _ ?_) | (refine List.mem_append.mpr (Or.inl ?_)) | fail "MineMemD")))
    k_with "SeqPost" => (refine Hid.out ?_)
    k_steps
    unfold Hid
    rename Fr _ _ _ _ => F25
    rename News _ _ _ _ => N25
    refine SeqEnd.intro ((s₁.heap.objs.size + 1, o1') :: (s₁.heap.objs.size + 1 + 1, o2') :: (s₁.heap.objs.size + 1 + 1 + 1, o3') :: B2) F25 (newsIn N25 ?_) hI9 ?_ ⟨.tail _ (.tail _ (.tail _ hT3m)), o1', o2', o3', _, _, _, rfl, d1', d2', d3', m2_other hms2 (by decide) (by decide)⟩
    · intro p hp
      refine List.mem_append.mpr (.inl (.tail _ (List.mem_append.mpr (.inl ?_))))
      rw [hL0']
      simp only [List.mem_cons] at hp ⊢
      grind
    · intro p hp
      rcases List.mem_cons.mp hp with rfl | hp
      · exact off1
      rcases List.mem_cons.mp hp with rfl | hp
      · exact off2
      rcases List.mem_cons.mp hp with rfl | hp
      · exact off3
      · exact offI p hp
  case' last4 =>
  clear FT NT2
  rintro m led h22 tk22 ⟨o1, o2, o3, w1, w2, w3, rfl, d1, d2, d3, hms⟩ F22 N22
  dsimp only
  k_with_none
  k_with "MineMem" => (first | (with_reducible assumption) | (with_reducible exact List.mem_cons_self) | ((with_reducible refine List.mem_append.mpr (Or.inl ?_)); walk_at "MineMem") | ((with_reducible refine List.mem_append.mpr (Or.inr ?_)); walk_at "MineMem") | ((with_reducible refine List.mem_cons_of_mem _ ?_); walk_at "MineMem"))
  k_with "eval ListComp" => ((k_here; k_dflt (refine LCg.ListComp_U (F₀ := by k_asm) (by with_unfolding_all rfl) (by decide) (by rfl) (by decide) (by rfl) ?_)))
  k_with "MineItem" => (first | exact DatIn.none | exact DatIn.bool _ | exact DatIn.int _ _ | exact DatIn.str _ _ | assumption | (refine DatIn.mono ?_ (by assumption); (intro p hp; (try simp only [List.mem_append, List.mem_cons] at hp ⊢); grind)))
  k_with "MineLt" => (first | assumption | exact allLt_of (by assumption) | tbn_find | (simp only [AllLt, and_true]; tbn_conj))
  k_with "MineTup" => ((refine DatIn.tuple (List.mem_append.mpr (Or.inr (List.Mem.head _))) ?_; repeat' (first | exact DatAll.nil | refine DatAll.cons ?_ ?_ | walk_at "MineItem")))
  k_with "TurnEnd" => ((refine TurnEnd.intro [(_, _)] (by assumption) (tl1 (by assumption)) (off1 (by walk_at "MineLt")) (by walk_at "MineTup")))
  k_with "MineSub" => (first | exact fun _ h => h | assumption | (intro p hp; first | (exact List.Mem.tail _ (by assumption)) | (simp only [List.mem_append, List.mem_cons, List.not_mem_nil, or_false] at hp ⊢; grind)))
  k_with "subscriptTail" => ((k_here; (with_reducible show wpAny _ _ (subscriptTail _ _ (Value.ref _) (Value.int _ _)) _ _ _); k_dflt (refine' item_tupleT ?mwt ?mwa ?mwb ?mwc ?mwd ?_; (case mwt => exact News.isTup (by k_asm) (by walk_at "MineMem")); (case mwa => decide); (case mwb => decide); (case mwc => rfl); (case mwd => rfl); k_whole)))
  k_with "MineRoom" => (first | assumption | ktr_room | (dsimp only [ktrTop, Around.deeper, Around.in1] at *; simp only [recursionLimit] at *; omega))
  k_with "MineUnits" => (first | ktr_units | (have hcL9 := cLine_is; dsimp only [ktrTop, Around.deeper, Around.in1] at *; omega))
  k_with "And" => (((with_reducible show WrapAt _ _ ∧ _); k_dflt (refine ⟨WrapAt.of (by k_asm) (by walk_at "MineMemD"), ?_⟩); (try dsimp only [List.nil_append, List.cons_append])))
  k_with "eval Name" => ((k_here; (with_reducible show wpAny _ _ (eval (Expr.Name _ _) (compEnvC _ _ _ _)) _ _ _); k_dflt (first | refine LCgL.ld_own (by k_asm) (by walk_at "MineMem") (by assumption) (by assumption) ?_ | refine LCgL.ld_global (by k_asm) (by k_asm) (by k_asm) (by k_is) ?_ | refine LCgL.ld_built (by k_asm) (by k_asm) (by k_asm) (by k_is) (by boot_by_name) (by decide) ?_)))
  k_with "MineMemD" => ((repeat' (first | assumption | exact List.mem_cons_self | (refine List.mem_cons_of_mem _ ?_) | (refine List.mem_append.mpr (Or.inl ?_)) | fail "MineMemD")))
  k_steps)
end Mine
theorem PySem.Challenge.cw_ij0164_02_holds : PySem.Challenge.rw_ij0164_02.Holds :=
  Mine.law_holds
