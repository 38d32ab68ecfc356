import PyProof.Rows.All
import Wide.All
import OpenK.AllK
import Wide.FinOn
import PySem.Challenge.RW_ij0164_01
open PySem PySem.W PyProof.Rows PySem.Spec PySem.Calls
set_option Elab.async false
set_option maxRecDepth 100000
set_option maxHeartbeats 8000000
namespace Mine
/-- what a call of f gives, for every caller's state -/
def Tel (prog : Program) (w : World) (K : Frag) (p : Program) (loose : List Str) (mean : ExcName → Option Value) (mg mb : Str → Option Value) (f : Addr) (k : Nat)
    (Rel : List (Addr × Obj) → List Value → Prop) (Out : List (Addr × Obj) → Value → Prop) : Prop :=
  ∀ (dp un : Nat) (gd : Option (List Code)) (cn : Str) (cs : Scope) (a : Addr) (ccd : Value) (cl : List (Str × Addr)) (outer : List Env) (A₀ : Around) (base h₀ : Heap) (L : Addr) (m : Str → Option Value) (news sub : List (Addr × Obj)) (s : Shared) (vs : List Value)
    (Q E : Value → Shared → Prop),
    Below A₀ base outer h₀ → Fr h₀ L s.heap m → K.In h₀ → News h₀ L s.heap news → Top p loose mean mg mb h₀ → cs.kind = .function → (∀ q ∈ sub, q ∈ news) → Rel sub vs → dp + k < recursionLimit → un + 8 * k < cLine →
    (∀ r tl h' tk', Fr h₀ L h' m → News h₀ L h' (news ++ tl) → (∀ q ∈ news, ∀ p ∈ tl, p.1 ≠ q.1) → Out (sub ++ tl) r → Q r { s with heap := h', toks := tk' }) →
    wpAny (model prog w) (ktrTop dp un gd cn cs L a ccd cl outer) (call (.ref f) vs) Q E s

section
variable {prog : Program} {w : World} {K : Frag} {p : Program} {loose : List Str} {mean : ExcName → Option Value} {mg mb : Str → Option Value} {f : Addr} {k : Nat} {Rel : List (Addr × Obj) → List Value → Prop} {Out : List (Addr × Obj) → Value → Prop}
theorem tel_use {dp un : Nat} {gd : Option (List Code)} {cn : Str} {cs : Scope} {a : Addr} {ccd : Value} {cl : List (Str × Addr)} {outer : List Env} {A₀ : Around} {base h₀ : Heap} {L : Addr} {m : Str → Option Value} {news sub : List (Addr × Obj)} {s : Shared} {vs : List Value}
    {Q E : Value → Shared → Prop} (C : Tel prog w K p loose mean mg mb f k Rel Out) (B : Below A₀ base outer h₀) (F : Fr h₀ L s.heap m) (X : K.In h₀) (N : News h₀ L s.heap news) (T : Top p loose mean mg mb h₀) (hk : cs.kind = .function) (hs : ∀ q ∈ sub, q ∈ news) (R : Rel sub vs)
    (hd : dp + k < recursionLimit) (hu : un + 8 * k < cLine)
    (ret : ∀ r tl h' tk', Fr h₀ L h' m → News h₀ L h' (news ++ tl) → (∀ q ∈ news, ∀ p ∈ tl, p.1 ≠ q.1) → Out (sub ++ tl) r → Q r { s with heap := h', toks := tk' }) :
    wpAny (model prog w) (ktrTop dp un gd cn cs L a ccd cl outer) (call (.ref f) vs) Q E s := C _ _ _ _ _ _ _ _ _ _ _ _ _ _ _ _ _ _ _ _ B F X N T hk hs R hd hu ret
end

section
variable {h₀ h : Heap} {L a : Addr} {o : Obj} {q : Addr × Obj} {news sub tl tl' : List (Addr × Obj)}
theorem tl0 (N : News h₀ L h news) : News h₀ L h (news ++ []) := by rw [List.append_nil]; exact N
theorem tl1 (N : News h₀ L h (q :: news)) : News h₀ L h (news ++ [q]) := fun p hp => N p ((List.mem_append.mp hp).elim (fun h => .tail _ h) fun h => by rw [List.mem_singleton.mp h]; exact .head _)
theorem newsTl {rest : List (Addr × Obj)} (N : News h₀ L h (q :: rest)) (hs : ∀ p ∈ news, p ∈ rest) : News h₀ L h (news ++ [q]) := fun p hp => N p ((List.mem_append.mp hp).elim (fun h => .tail _ (hs p h)) fun h => by rw [List.mem_singleton.mp h]; exact .head _)
theorem off0 : ∀ q ∈ news, ∀ p ∈ ([] : List (Addr × Obj)), p.1 ≠ q.1 := fun _ _ _ h => nomatch h
theorem off1 (h : AllLt a news) : ∀ q ∈ news, ∀ p ∈ [(a, o)], p.1 ≠ q.1 := by
  intro q hq p hp
  rw [List.mem_singleton.mp hp]
  exact fun e => Nat.ne_of_lt (ktn_ltOf h q hq) e.symm
theorem sub_l {l l' : List (Addr × Obj)} (h : ∀ p ∈ l, p ∈ l') : ∀ p ∈ l, p ∈ l' ++ tl := fun p hp => List.mem_append.mpr (.inl (h p hp))
theorem off1_lt : LCg.Off1 a news → ∀ p ∈ news, p.1 ≠ a := by
  induction news with
  | nil => intro _ p hp; cases hp
  | cons q r ih =>
    intro h p hp
    rcases List.mem_cons.mp hp with rfl | hp
    · exact h.1
    · exact ih h.2 p hp
end

/-- the end of a turn of a comprehension: the ledger has grown -/
def TurnEnd (h₀ : Heap) (L : Addr) (m : Str → Option Value) (s : Shared) (all : List (Addr × Obj)) (P : Value → List (Addr × Obj) → Prop) (y : Value) (s₂ : Shared) : Prop :=
  ∃ h' tk tl, s₂ = { s with heap := h', toks := tk } ∧ Fr h₀ L h' m ∧ News h₀ L h' (all ++ tl) ∧ (∀ q ∈ all, ∀ p ∈ tl, p.1 ≠ q.1) ∧ P y tl
theorem TurnEnd.intro {h₀ : Heap} {L : Addr} {m : Str → Option Value} {s : Shared} {all : List (Addr × Obj)} {P : Value → List (Addr × Obj) → Prop} {y : Value} {h' : Heap} {tk : Nat} (tl : List (Addr × Obj))
    (F : Fr h₀ L h' m) (N : News h₀ L h' (all ++ tl)) (o : ∀ q ∈ all, ∀ p ∈ tl, p.1 ≠ q.1) (hp : P y tl) : TurnEnd h₀ L m s all P y { s with heap := h', toks := tk } := ⟨h', tk, tl, rfl, F, N, o, hp⟩

theorem datAll_get {L : List (Addr × Obj)} {δ : Type} {enc : δ → Dat} {ds : List δ} : ∀ {vs : List Value}, DatAll L vs (ds.map enc) → ∀ {i : Nat} {v : Value}, vs[i]? = some v → ∃ d, ds[i]? = some d ∧ DatIn L v (enc d) := by
  induction ds with
  | nil => intro vs hd i v h; cases hd; cases h
  | cons d ds ih =>
    intro vs hd i v h
    cases hd with
    | cons h1 h2 =>
      cases i with
      | zero => cases h; exact ⟨d, rfl, h1⟩
      | succ i => exact ih h2 h
theorem datAll_ints {L : List (Addr × Obj)} {vs : List Value} {ns : List Int} (h : IntsAre vs ns) : DatAll L vs (ns.map Dat.int) := by
  induction h with
  | nil => exact .nil
  | cons i t _ ih => exact .cons (.int i t) ih

section
variable {prog : Program} {w : World} {A : Around} {h₀ : Heap} {L : Addr} {m : Str → Option Value} {env : Env} {elt ct : Expr} {x : Str} {scope : Scope} {cl : List (Str × Addr)} {s s₁ : Shared} {Fin : List Value → List (Addr × Obj) → Prop} {news sub : List (Addr × Obj)}

theorem off3_of {I C D : Addr} {oI oC oD : Obj} {nw tl : List (Addr × Obj)} (o : ∀ q ∈ (I, oI) :: (C, oC) :: (D, oD) :: nw, ∀ p ∈ tl, p.1 ≠ q.1) (h : LCg.Off3 I C D nw) : LCg.Off3 I C D (nw ++ tl) :=
  LCg.Off3.of fun p hp => (List.mem_append.mp hp).elim (fun hp => h.mem p hp) fun hp => ⟨o _ (.head _) p hp, o _ (.tail _ (.head _)) p hp, o _ (.tail _ (.tail _ (.head _))) p hp⟩

/-- a comprehension without a test over data: map -/
theorem comp_rest {δ : Type} {enc dec : δ → Dat} {ax : Addr} {vs : List Value} {ds : List δ} (hS : LCg.SrcAt h₀ ax vs.toArray news) (hsub : ∀ q ∈ sub, q ∈ news) (hd : DatAll sub vs (ds.map enc))
    (turn : ∀ v d I oI C oC D m₂ ys tl h tk (E' : Value → Shared → Prop), d ∈ ds → DatIn (sub ++ tl) v (enc d) → LCg.NsObj oC m₂ → m₂ x = some v → Fr h₀ L h m → News h₀ L h ((I, oI) :: (C, oC) :: (D, LCg.lst ys) :: (news ++ tl)) →
      wpAny (model prog w) A (eval elt (compEnvC scope cl C env)) (TurnEnd h₀ L m { s with heap := h, toks := tk } ((I, oI) :: (C, oC) :: (D, LCg.lst ys) :: (news ++ tl)) (fun y tl' => DatIn (sub ++ tl ++ tl') y (dec d))) E' { s with heap := h, toks := tk })
    (fin : ∀ ys tl, (∀ q ∈ news, ∀ p ∈ tl, p.1 ≠ q.1) → DatAll (sub ++ tl) ys (ds.map dec) → Fin ys (news ++ tl)) :
    LCg.CompRest prog w A h₀ L m env elt x scope cl s (LCg.SrcAt h₀ ax vs.toArray) (fun i v => vs.toArray[i]? = some v) Fin vs.toArray.size 0 [] news := by
  have hlen : vs.length = ds.length := by rw [hd.length, List.length_map]
  have key : ∀ (j i : Nat) (ys : List Value) (tl : List (Addr × Obj)), i + j = vs.length → (∀ q ∈ news, ∀ p ∈ tl, p.1 ≠ q.1) → DatAll (sub ++ tl) ys ((ds.take i).map dec) →
      LCg.CompRest prog w A h₀ L m env elt x scope cl s (LCg.SrcAt h₀ ax vs.toArray) (fun i v => vs.toArray[i]? = some v) Fin j i ys (news ++ tl) := by
    intro j
    induction j with
    | zero =>
      intro i ys tl hi ho hy
      have e : i = ds.length := by omega
      subst e
      rw [List.take_length] at hy
      exact LCg.CompRest.zero (fin ys tl ho hy)
    | succ j ih =>
      intro i ys tl hi ho hy
      refine LCg.CompRest.succ ?_
      intro v I oI C oC D m₂ h tk E' hv hC hx F N off ne
      have hv' : vs[i]? = some v := by simpa using hv
      obtain ⟨d, hdi, hdv⟩ := datAll_get hd hv'
      refine wpAny_mono (turn v d I oI C oC D m₂ ys tl h tk E' (List.mem_of_getElem? hdi) (DatIn.mono (fun p hp => List.mem_append.mpr (.inl hp)) hdv) hC hx F N) (fun y s₂ hq => ?_) fun _ _ e => e
      obtain ⟨h', tk', tl', rfl, F', N', o', hy'⟩ := hq
      refine ⟨h', tk', news ++ tl ++ tl', rfl, F', ?_, off3_of o' off, ?_, ?_⟩
      · intro p hp
        refine N' p ?_
        rcases List.mem_cons.mp hp with rfl | hp
        · exact .head _
        · rcases List.mem_cons.mp hp with rfl | hp
          · exact .tail _ (.head _)
          · rcases List.mem_cons.mp hp with rfl | hp
            · exact .tail _ (.tail _ (.head _))
            · exact .tail _ (.tail _ (.tail _ hp))
      · rcases hS with hS | ⟨o, hm, r⟩
        · exact .inl hS
        · exact .inr ⟨o, List.mem_append.mpr (.inl (List.mem_append.mpr (.inl hm))), r⟩
      · rw [List.append_assoc]
        refine ih (i + 1) _ (tl ++ tl') (by omega) ?_ ?_
        · intro q hq p hp
          rcases List.mem_append.mp hp with hp | hp
          · exact ho q hq p hp
          · exact o' q (.tail _ (.tail _ (.tail _ (List.mem_append.mpr (.inl hq))))) p hp
        · rw [List.take_add_one, hdi, List.map_append, ← List.append_assoc]
          refine DatAll.append (DatAll.mono (fun p hp => List.mem_append.mpr (.inl hp)) hy) ?_
          exact .one hy'
  have q := key vs.length 0 [] [] (by omega) off0 (by simp only [List.take_zero, List.map_nil]; exact .nil)
  rw [List.append_nil] at q
  rw [List.size_toArray]
  exact q

theorem src_U {δ : Type} {enc dec : δ → Dat} {ax : Addr} {vs : List Value} {ds : List δ} {kk : Nat} {Fi : Shared → List Value → List (Addr × Obj) → Prop} (hh : A.handled = none) (F : Fr h₀ L s₁.heap m) (N : News h₀ L s₁.heap news) (hl : (ax, listOf vs.toArray kk) ∈ news) (hsub : ∀ q ∈ sub, q ∈ news) (hd : DatAll sub vs (ds.map enc)) (hsz : ds.length ≤ 1000)
    (turn : ∀ v d I oI C oC D m₂ ys tl h tk (E' : Value → Shared → Prop), d ∈ ds → DatIn (sub ++ tl) v (enc d) → LCg.NsObj oC m₂ → m₂ x = some v → Fr h₀ L h m → News h₀ L h ((I, oI) :: (C, oC) :: (D, LCg.lst ys) :: (news ++ tl)) →
      wpAny (model prog w) A (eval elt (compEnvC scope cl C env)) (TurnEnd h₀ L m { s₁ with heap := h, toks := tk } ((I, oI) :: (C, oC) :: (D, LCg.lst ys) :: (news ++ tl)) (fun y tl' => DatIn (sub ++ tl ++ tl') y (dec d))) E' { s₁ with heap := h, toks := tk })
    (fin : ∀ (g : Heap) ys tl, (∀ q ∈ news, ∀ p ∈ tl, p.1 ≠ q.1) → DatAll (sub ++ tl) ys (ds.map dec) → Fi { s₁ with heap := g } ys (news ++ tl)) : LCg.CompSrc prog w A h₀ L m env elt x scope cl Fi (.ref ax) s₁ :=
  LCg.CompSrc.ledger hh F N hl (by
    have := hd.length
    rw [List.length_map] at this
    have h1 : vs.toArray.size = vs.length := List.size_toArray
    rw [h1, sizeLine_eq]; omega) fun g => comp_rest (.inr ⟨_, hl, rfl, _, rfl⟩) hsub hd turn (fin g)

/-- a comprehension with a test over a range -/
theorem comp_restT {n : Nat} {dec : Nat → Dat} {tst : Nat → Bool} (hsub : ∀ q ∈ sub, q ∈ news)
    (test : ∀ k t I oI C oC D m₂ ys tl h tk (E' : Value → Shared → Prop), k < n → LCg.NsObj oC m₂ → m₂ x = some (.int (k : Int) t) → Fr h₀ L h m → News h₀ L h ((I, oI) :: (C, oC) :: (D, LCg.lst ys) :: (news ++ tl)) →
      wpAny (model prog w) A (isTrue ct (compEnvC scope cl C env) (eval ct (compEnvC scope cl C env))) (fun ok s' => ok = tst k ∧ ∃ h' tk', s' = { s with heap := h', toks := tk' } ∧ Fr h₀ L h' m ∧ News h₀ L h' ((I, oI) :: (C, oC) :: (D, LCg.lst ys) :: (news ++ tl))) E' { s with heap := h, toks := tk })
    (turn : ∀ k t I oI C oC D m₂ ys tl h tk (E' : Value → Shared → Prop), k < n → tst k = true → LCg.NsObj oC m₂ → m₂ x = some (.int (k : Int) t) → Fr h₀ L h m → News h₀ L h ((I, oI) :: (C, oC) :: (D, LCg.lst ys) :: (news ++ tl)) →
      wpAny (model prog w) A (eval elt (compEnvC scope cl C env)) (TurnEnd h₀ L m { s with heap := h, toks := tk } ((I, oI) :: (C, oC) :: (D, LCg.lst ys) :: (news ++ tl)) (fun y tl' => DatIn (sub ++ tl ++ tl') y (dec k))) E' { s with heap := h, toks := tk })
    (fin : ∀ ys tl, (∀ q ∈ news, ∀ p ∈ tl, p.1 ≠ q.1) → DatAll (sub ++ tl) ys (((List.range n).filter tst).map dec) → Fin ys (news ++ tl)) :
    LCt.CompRestT prog w A h₀ L m env ct elt x scope cl s (fun _ => True) (fun i v => ∃ t, v = .int (0 + (i : Int)) t) Fin n 0 [] news := by
  have key : ∀ (j i : Nat) (ys : List Value) (tl : List (Addr × Obj)), i + j = n → (∀ q ∈ news, ∀ p ∈ tl, p.1 ≠ q.1) → DatAll (sub ++ tl) ys (((List.range i).filter tst).map dec) →
      LCt.CompRestT prog w A h₀ L m env ct elt x scope cl s (fun _ => True) (fun i v => ∃ t, v = .int (0 + (i : Int)) t) Fin j i ys (news ++ tl) := by
    intro j
    induction j with
    | zero =>
      intro i ys tl hi ho hy
      have e : i = n := by omega
      subst e
      exact LCt.CompRestT.zero (fin ys tl ho hy)
    | succ j ih =>
      intro i ys tl hi ho hy
      refine LCt.CompRestT.succ ?_
      rintro v I oI C oC D m₂ h tk E' ⟨t, rfl⟩ hC hx F N off ne
      rw [Int.zero_add] at hx
      have hin : i < n := by omega
      refine wpAny_mono (test i t I oI C oC D m₂ ys tl h tk E' hin hC hx F N) (fun ok s₂ hq => ?_) fun _ _ e => e
      obtain ⟨rfl, h₁, tk₁, rfl, F₁, N₁⟩ := hq
      cases hb : tst i with
      | true =>
        rw [if_pos rfl]
        refine wpAny_mono (turn i t I oI C oC D m₂ ys tl h₁ tk₁ E' hin hb hC hx F₁ N₁) (fun y s₂ hq => ?_) fun _ _ e => e
        obtain ⟨h', tk', tl', rfl, F', N', o', hy'⟩ := hq
        refine ⟨h', tk', news ++ tl ++ tl', rfl, F', ?_, off3_of o' off, trivial, ?_⟩
        · intro p hp
          refine N' p ?_
          rcases List.mem_cons.mp hp with rfl | hp
          · exact .head _
          · rcases List.mem_cons.mp hp with rfl | hp
            · exact .tail _ (.head _)
            · rcases List.mem_cons.mp hp with rfl | hp
              · exact .tail _ (.tail _ (.head _))
              · exact .tail _ (.tail _ (.tail _ hp))
        · rw [List.append_assoc]
          refine ih (i + 1) _ (tl ++ tl') (by omega) ?_ ?_
          · intro q hq p hp
            rcases List.mem_append.mp hp with hp | hp
            · exact ho q hq p hp
            · exact o' q (.tail _ (.tail _ (.tail _ (List.mem_append.mpr (.inl hq))))) p hp
          · rw [List.range_succ, List.filter_append, List.map_append, ← List.append_assoc]
            refine DatAll.append (DatAll.mono (fun p hp => List.mem_append.mpr (.inl hp)) hy) ?_
            have e : List.filter tst [i] = [i] := by simp [hb]
            rw [e]
            exact .one hy'
      | false =>
        rw [if_neg Bool.false_ne_true]
        refine ⟨h₁, tk₁, news ++ tl, rfl, F₁, N₁, off, trivial, ?_⟩
        refine ih (i + 1) ys tl (by omega) ho ?_
        rw [List.range_succ, List.filter_append]
        have e : List.filter tst [i] = [] := by simp [hb]
        rw [e, List.append_nil]
        exact hy
  have q := key n 0 [] [] (by omega) off0 (by simp; exact .nil)
  rw [List.append_nil] at q
  exact q
end
section
variable {h₀ h : Heap} {L a : Addr} {o : Obj} {q : Addr × Obj} {news sub tl tl' : List (Addr × Obj)}
theorem newsIn {l l' : List (Addr × Obj)} (N : News h₀ L h l) (hs : ∀ p ∈ l', p ∈ l) : News h₀ L h l' := fun p hp => N p (hs p hp)
theorem in1 : ∀ p ∈ news ++ q :: tl, p ∈ q :: (news ++ tl) := by
  intro p hp
  rcases List.mem_append.mp hp with hp | hp
  · exact .tail _ (List.mem_append.mpr (.inl hp))
  · rcases List.mem_cons.mp hp with rfl | hp
    · exact .head _
    · exact .tail _ (List.mem_append.mpr (.inr hp))
theorem in2 : ∀ p ∈ sub ++ tl, p ∈ sub ++ q :: tl := by
  intro p hp
  rcases List.mem_append.mp hp with hp | hp
  · exact List.mem_append.mpr (.inl hp)
  · exact List.mem_append.mpr (.inr (.tail _ hp))
theorem offIn (ho : ∀ q ∈ news, ∀ p ∈ tl, p.1 ≠ q.1) (h : ∀ p ∈ news ++ tl, p.1 ≠ a) : ∀ q ∈ news, ∀ p ∈ (a, o) :: tl, p.1 ≠ q.1 := by
  intro q hq p hp
  rcases List.mem_cons.mp hp with rfl | hp
  · exact fun e => h q (List.mem_append.mpr (.inl hq)) e.symm
  · exact ho q hq p hp
end
/-! data and their equality -/
def okD : Nat → Dat → Bool
  | _, .none => true
  | _, .bool _ => true
  | _, .int _ => true
  | _, .str x => PyData.strOk x
  | n + 1, .tuple ds => ds.all (okD n)
  | n + 1, .list ds => ds.all (okD n)
  | _, _ => false
section
variable {h₀ h : Heap} {L : Addr} {news : List (Addr × Obj)}
theorem rd_step (N : News h₀ L h news) {n : Nat} (ih : ∀ {v : Value} {d : Dat}, DatIn news v d → okD n d = true → ∃ as, Reads h v (kqdP d) as) {ds : List Dat} : ∀ {vs : List Value}, DatAll news vs ds → (∀ d ∈ ds, okD n d = true) → ∃ as, ReadsAll h vs (kqdPs ds) as := by
  induction ds with
  | nil => intro vs D _; cases D; exact ⟨_, ReadsAll.nil⟩
  | cons d ds hi =>
    intro vs D hk
    cases D with
    | cons hd r =>
      obtain ⟨as, q⟩ := ih hd (hk _ (.head _))
      obtain ⟨bs, p⟩ := hi r fun d hm => hk d (.tail _ hm)
      rw [kqdPs]
      exact ⟨_, ReadsAll.cons q p⟩
theorem rd_in (N : News h₀ L h news) (n : Nat) : ∀ {v : Value} {d : Dat}, DatIn news v d → okD n d = true → ∃ as, Reads h v (kqdP d) as := by
  induction n with
  | zero =>
    intro v d hd hk
    cases hd with
    | none => exact ⟨_, Reads.none⟩
    | bool b => exact ⟨_, Reads.bool b⟩
    | int i t => exact ⟨_, Reads.int i t⟩
    | str x t => exact ⟨_, Reads.str x t⟩
    | _ => exact absurd hk Bool.false_ne_true
  | succ n ih =>
    intro v d hd hk
    cases hd with
    | none => exact ⟨_, Reads.none⟩
    | bool b => exact ⟨_, Reads.bool b⟩
    | int i t => exact ⟨_, Reads.int i t⟩
    | str x t => exact ⟨_, Reads.str x t⟩
    | bytes b t => exact absurd hk Bool.false_ne_true
    | tuple hm r =>
      obtain ⟨as, q⟩ := rd_step N ih r (List.all_eq_true.mp hk)
      rw [kqdP]
      exact ⟨as, reads_tuple_at (N.get hm) rfl rfl q⟩
    | list hm r =>
      obtain ⟨as, q⟩ := rd_step N ih r (List.all_eq_true.mp hk)
      rw [kqdP]
      exact ⟨_, reads_list_at (N.get hm) rfl rfl q⟩
theorem rd_all (N : News h₀ L h news) {vs : List Value} {ds : List Dat} (n : Nat) (D : DatAll news vs ds) (hk : ∀ d ∈ ds, okD n d = true) : ∃ as, ReadsAll h vs (kqdPs ds) as := rd_step N (rd_in N n) D hk
end
theorem okD_all {n : Nat} (hn : ∀ d, okD n d = true → (kqdP d).canLay0 = true ∧ (kqdP d).depth ≤ n) : ∀ ds : List Dat, (∀ d ∈ ds, okD n d = true) → PyData.canLayAll0 (kqdPs ds) = true ∧ PyData.depthAll (kqdPs ds) ≤ n
  | [], _ => by simp [kqdPs, PyData.canLayAll0, PyData.depthAll]
  | d :: ds, h => by
    have h1 := hn d (h d (.head _))
    have h2 := okD_all hn ds fun e he => h e (.tail _ he)
    have a1 := h1.2
    have a2 := h2.2
    simp only [kqdPs, PyData.canLayAll0, PyData.depthAll, h1.1, h2.1, Bool.and_self, true_and]
    omega
theorem okD_lay : ∀ (n : Nat) (d : Dat), okD n d = true → (kqdP d).canLay0 = true ∧ (kqdP d).depth ≤ n := by
  intro n
  induction n with
  | zero => intro d h; cases d <;> simp_all [okD, kqdP, PyData.canLay0, PyData.depth]
  | succ n ih =>
    intro d h
    cases d with
    | none => simp [kqdP, PyData.canLay0, PyData.depth]
    | bool b => simp [kqdP, PyData.canLay0, PyData.depth]
    | int i => simp [kqdP, PyData.canLay0, PyData.depth]
    | str x => simp [okD] at h; simp [kqdP, PyData.canLay0, PyData.depth, h]
    | bytes b => simp [okD] at h
    | tuple ds =>
      have q := okD_all ih ds (by simpa [okD] using h)
      have q2 := q.2
      simp only [kqdP, PyData.canLay0, PyData.depth, q.1, true_and]
      omega
    | list ds =>
      have q := okD_all ih ds (by simpa [okD] using h)
      have q2 := q.2
      simp only [kqdP, PyData.canLay0, PyData.depth, q.1, true_and]
      omega
section
variable {prog : Program} {w : World} {A : Around} {E : Value → Shared → Prop} {s : Shared} {h₀ : Heap} {L : Addr} {news n₁ n₂ : List (Addr × Obj)} {a b : Value} {da db : Dat} {ds : List Dat} {Q : Value → Shared → Prop}
theorem shaped_okD {n : Nat} (hn : n ≤ 64) {d : Dat} (h : okD n d = true) : SeqAt.shaped (kqdP d) = true := by
  have l := okD_lay n d h
  unfold SeqAt.shaped
  rw [l.1, Bool.true_and]
  exact decide_eq_true (Nat.le_trans l.2 hn)
theorem d_eq (N : News h₀ L s.heap news) (Da : DatIn n₁ a da) (sa : ∀ p ∈ n₁, p ∈ news) (Db : DatIn n₂ b db) (sb : ∀ p ∈ n₂, p ∈ news) (ha : okD 8 da = true) (hb : okD 8 db = true) (hu : A.units + 64 < cLine)
    (h : Q (.bool (PyData.eqv (kqdP da) (kqdP db))) s) : wpAny (model prog w) A (compareOp .Eq a b) Q E s := by
  obtain ⟨as, ra⟩ := rd_in N 8 (Da.mono sa) ha
  obtain ⟨bs, rb⟩ := rd_in N 8 (Db.mono sb) hb
  exact eq_dataH ra rb (shaped_okD (by decide) ha) (shaped_okD (by decide) hb) hu h
theorem d_ne (N : News h₀ L s.heap news) (Da : DatIn n₁ a da) (sa : ∀ p ∈ n₁, p ∈ news) (Db : DatIn n₂ b db) (sb : ∀ p ∈ n₂, p ∈ news) (ha : okD 8 da = true) (hb : okD 8 db = true) (hu : A.units + 64 < cLine)
    (h : Q (.bool (!PyData.eqv (kqdP da) (kqdP db))) s) : wpAny (model prog w) A (compareOp .NotEq a b) Q E s := by
  obtain ⟨as, ra⟩ := rd_in N 8 (Da.mono sa) ha
  obtain ⟨bs, rb⟩ := rd_in N 8 (Db.mono sb) hb
  exact ne_dataH ra rb (shaped_okD (by decide) ha) (shaped_okD (by decide) hb) hu h
theorem d_listLay (ha : ∀ d ∈ ds, okD 8 d = true) : PyData.canLayAll0 (kqdPs ds) = true ∧ PyData.depthAll (kqdPs ds) ≤ 8 := okD_all (okD_lay 8) ds ha
theorem d_in (N : News h₀ L s.heap news) (Da : DatIn n₁ a da) (sa : ∀ p ∈ n₁, p ∈ news) (Db : DatIn n₂ b (.list ds)) (sb : ∀ p ∈ n₂, p ∈ news) (ha : okD 8 da = true) (hb : ∀ d ∈ ds, okD 8 d = true) (hu : A.units + 64 < cLine)
    (h : Q (.bool ((kqdPs ds).any fun y => PyData.eqv y (kqdP da))) s) : wpAny (model prog w) A (compareOp .In a b) Q E s := by
  obtain ⟨as, ra⟩ := rd_in N 8 (Da.mono sa) ha
  obtain ⟨bs, rb⟩ := rd_in N 9 (Db.mono sb) (by simpa [okD] using hb)
  have l := d_listLay hb
  rw [kqdP] at rb
  refine SeqAt.in_list_reads rb ra l.1 (okD_lay 8 _ ha).1 ?_ h
  have := Nat.min_le_left (PyData.depthAll (kqdPs ds)) (kqdP da).depth
  have := l.2
  omega
theorem d_notIn (N : News h₀ L s.heap news) (Da : DatIn n₁ a da) (sa : ∀ p ∈ n₁, p ∈ news) (Db : DatIn n₂ b (.list ds)) (sb : ∀ p ∈ n₂, p ∈ news) (ha : okD 8 da = true) (hb : ∀ d ∈ ds, okD 8 d = true) (hu : A.units + 64 < cLine)
    (h : Q (.bool (!(kqdPs ds).any fun y => PyData.eqv y (kqdP da))) s) : wpAny (model prog w) A (compareOp .NotIn a b) Q E s := by
  obtain ⟨as, ra⟩ := rd_in N 8 (Da.mono sa) ha
  obtain ⟨bs, rb⟩ := rd_in N 9 (Db.mono sb) (by simpa [okD] using hb)
  have l := d_listLay hb
  rw [kqdP] at rb
  refine SeqAt.notIn_list_reads rb ra l.1 (okD_lay 8 _ ha).1 ?_ h
  have := Nat.min_le_left (PyData.depthAll (kqdPs ds)) (kqdP da).depth
  have := l.2
  omega
end
def flat : Dat → Bool
  | .none => true | .bool _ => true | .int _ => true | .str _ => true | _ => false
theorem datIn_flat {L L' : List (Addr × Obj)} {v : Value} {d : Dat} (h : DatIn L v d) (hf : flat d = true) : DatIn L' v d := by
  cases h with
  | none => exact .none
  | bool b => exact .bool b
  | int i t => exact .int i t
  | str x t => exact .str x t
  | bytes b t => cases hf
  | tuple _ _ => cases hf
  | list _ _ => cases hf
/-! what is known of an argument -/
section
variable {L : List (Addr × Obj)} {v : Value} {vs : List Value}
theorem inv1 {d : Dat} (h : DatAll L vs [d]) : ∃ v, vs = [v] ∧ DatIn L v d := by
  cases h with
  | cons h1 h2 => cases h2; exact ⟨_, rfl, h1⟩
theorem inv2 {d e : Dat} (h : DatAll L vs [d, e]) : ∃ v u, vs = [v, u] ∧ DatIn L v d ∧ DatIn L u e := by
  cases h with
  | cons h1 h2 =>
    obtain ⟨u, rfl, h3⟩ := inv1 h2
    exact ⟨_, _, rfl, h1, h3⟩
theorem invI {i : Int} (h : DatIn L v (.int i)) : ∃ t, v = .int i t := by cases h; exact ⟨_, rfl⟩
theorem invB {b : Bool} (h : DatIn L v (.bool b)) : v = .bool b := by cases h; rfl
theorem invS {x : Str} (h : DatIn L v (.str x)) : ∃ t, v = .str x t := by cases h; exact ⟨_, rfl⟩
theorem invL {ds : List Dat} (h : DatIn L v (.list ds)) : ∃ a us n, v = .ref a ∧ (a, W.listOf us.toArray n) ∈ L ∧ DatAll L us ds := by cases h with | list hm r => exact ⟨_, _, _, rfl, hm, r⟩
theorem inv3 {i j k : Int} (h : DatIn L v (.tuple [.int i, .int j, .int k])) : ∃ a t1 t2 t3 n, v = .ref a ∧ (a, ({ cls := .type "tuple", data := .seq [Value.int i t1, Value.int j t2, Value.int k t3].toArray n } : Obj)) ∈ L := by
  cases h with
  | tuple hm r =>
    cases r with
    | cons h1 r =>
      obtain ⟨_, _, rfl, h2, h3⟩ := inv2 r
      obtain ⟨_, rfl⟩ := invI h1
      obtain ⟨_, rfl⟩ := invI h2
      obtain ⟨_, rfl⟩ := invI h3
      exact ⟨_, _, _, _, _, rfl, hm⟩
end

abbrev mwObj (id : String) (v : Value) : Obj := { cls := .type "method-wrapper", data := .fields #[.builtin id, v] }
theorem ga_entry_get : entryFor table "wrapper_descriptor.__get__" = some Builtin.«wrapper_descriptor.__get__» := entryFor_of_tree (by kernel_rfl)
theorem ga_get : typeLookup (.type "wrapper_descriptor") "__get__" = pure (some (.builtin "wrapper_descriptor.__get__")) := by rw [typeLookup_type, builtinLookup_eq_fast]; kernel_rfl
theorem ga_set : typeLookup (.type "wrapper_descriptor") "__set__" = pure none := by rw [typeLookup_type, builtinLookup_eq_fast]; kernel_rfl
theorem ga_delete : typeLookup (.type "wrapper_descriptor") "__delete__" = pure none := by rw [typeLookup_type, builtinLookup_eq_fast]; kernel_rfl
theorem ga_type : typeOf (.builtin "list.__contains__") = pure (.type "wrapper_descriptor") := by kernel_rfl
theorem ga_check (a : Addr) : checkBuiltinCall "wrapper_descriptor.__get__" ⟨[.builtin "list.__contains__", .ref a, .type "list"], []⟩ = pure () := by kernel_rfl
theorem ga_meets (a : Addr) (xs : Array Value) (k : Nat) (u : Tok) :
    Meets (Builtin.«object.__getattribute__» ⟨[.ref a, .str (Str.ofString "__contains__") u], []⟩) (fun A R s => s.heap.get? a = some { cls := .type "list", dict := none, data := .seq xs k, slots := #[] } ∧ ∀ tk, R (.ok (.ret (.ref s.heap.objs.size))) { s with heap := s.heap.push (mwObj "list.__contains__" (.ref a)), toks := tk }) :=
  Meets.of_wp fun prog w A R s hs => by
    obtain ⟨hp, g, d, tk, os⟩ := s
    obtain ⟨hx, hs⟩ := hs
    have hT : (⟨hp, g, d, tk, os⟩ : Shared).TypeIs (.ref a) "list" := ⟨_, hx, rfl⟩
    have f1 := F.slot_list_contains.lookup
    have f2 := ga_get
    have f3 := ga_set
    have f4 := ga_delete
    have f5 := ga_type
    unfold Builtin.«object.__getattribute__»
    repeat (any_goals (first | assumption | wp_step))
    refine codeAny_call_builtin (by decide +kernel) ga_entry_get (wpAny_of_eq (ga_check a) ?_)
    unfold Builtin.«wrapper_descriptor.__get__»
    have e6 : (".".intercalate ("list.__contains__".cutAt '.').dropLast) = "list" := by decide +kernel
    have f6 : isSubtype (.type "list") (.type (".".intercalate ("list.__contains__".cutAt '.').dropLast)) = pure true := by rw [e6, isSubtype_type]; kernel_rfl
    repeat (any_goals (first | assumption | exact hT | wp_step))
    exact ⟨_, rfl, hs _⟩
theorem ga_contains {prog : Program} {w : World} {A : Around} {E : Value → Shared → Prop} {s : Shared} {l : Addr} {xs : Array Value} {k : Nat} {Q : Value → Shared → Prop}
    (hx : s.heap.get? l = some { cls := .type "list", dict := none, data := .seq xs k, slots := #[] })
    (h : ∀ tk, Q (.ref s.heap.objs.size) { s with heap := s.heap.push (mwObj "list.__contains__" (.ref l)), toks := tk }) : wpAny (model prog w) A (getAttr (.ref l) (Str.ofString "__contains__") true) Q E s := by
  obtain ⟨hp, g, d, tk, os⟩ := s
  have hT : ∀ tk', (⟨hp, g, d, tk', os⟩ : Shared).TypeIs (.ref l) "list" := fun _ => ⟨_, hx, rfl⟩
  have f1 := F.slot_list_contains.lookup
  have f3 := F.slot_list_getattribute.lookup
  have f4 := F.slot_list_getattribute.bind (.ref l)
  have f5 := am_list_getattr_none
  unfold getAttr getAttrBy
  repeat (any_goals (first | assumption | exact hT _ | ((with_reducible show wpAny _ _ (call (Value.builtin "list.__getattribute__") _ _) _ _ _); refine call_meets F.slot_list_getattribute (hT _) am_entry_list_getattribute (F.args_list_getattribute_2 _ _) (ga_meets l xs k _) ⟨hx, fun tk' => ?_⟩) | wp_step))
  exact wpAny_pure (h _)
theorem mw_contains {prog : Program} {w : World} {A : Around} {E : Value → Shared → Prop} {s : Shared} {q l : Addr} {xs : Array Value} {k : Nat} {v : Value} {e : Value → Bool} {Q : Value → Shared → Prop}
    (hq : s.heap.get? q = some (mwObj "list.__contains__" (.ref l))) (hx : s.heap.get? l = some { cls := .type "list", dict := none, data := .seq xs k, slots := #[] })
    (he : ∀ y, y ∈ xs → SeqAt.EqAt A.in1 s y v (e y)) (h : Q (.bool (xs.any e)) s) : wpAny (model prog w) A (call (.ref q) [v]) Q E s := by
  refine wpAny_call (codeAny_of_tree ?_)
  show wpAny _ _ (callAny (.ref q) ⟨[v], []⟩) _ _ _
  unfold callAny
  obtain ⟨hp, g, d, tk, os⟩ := s
  repeat (any_goals (first | assumption | wp_step))
  have hp' : plainId "list.__contains__" = true := by decide +kernel
  refine ⟨plainId_quiet hp' _, codeAny_builtin F.entry_list_contains ?_⟩
  rw [Around.under_plainId hp' _]
  exact SeqAt.list_containsAt l xs k none #[] v e prog w A _ _ ⟨hx, he, h⟩
section
variable {prog : Program} {w : World} {A : Around} {E : Value → Shared → Prop} {s : Shared} {h₀ : Heap} {L : Addr} {m : Str → Option Value} {news n₁ n₂ : List (Addr × Obj)} {Q : Value → Shared → Prop}
theorem ga_containsN {l : Addr} {xs : Array Value} {k : Nat} (F : Fr h₀ L s.heap m) (N : News h₀ L s.heap news) (hm : (l, W.listOf xs k) ∈ news)
    (h : ∀ q h' tk, Fr h₀ L h' m → News h₀ L h' ((q, mwObj "list.__contains__" (.ref l)) :: news) → (∀ p ∈ news, p.1 < q) → Q (.ref q) { s with heap := h', toks := tk }) : wpAny (model prog w) A (getAttr (.ref l) (Str.ofString "__contains__") true) Q E s :=
  ga_contains (N.get hm) fun tk => h _ _ tk (F.push _) (N.push F _) fun p hp => Heap.lt_size (N p hp).1
theorem mw_data {q l : Addr} {vs : List Value} {ds : List Dat} {k : Nat} {v : Value} {d : Dat} (N : News h₀ L s.heap news) (hq : (q, mwObj "list.__contains__" (.ref l)) ∈ news) (hm : (l, W.listOf vs.toArray k) ∈ news)
    (D : DatAll n₁ vs ds) (s1 : ∀ p ∈ n₁, p ∈ news) (Dv : DatIn n₂ v d) (s2 : ∀ p ∈ n₂, p ∈ news) (h1 : ∀ d ∈ ds, okD 8 d = true) (h2 : okD 8 d = true) (hu : A.units + 64 < cLine)
    (h : Q (.bool ((kqdPs ds).any fun y => PyData.eqv y (kqdP d))) s) : wpAny (model prog w) A (call (.ref q) [v]) Q E s := by
  obtain ⟨as, ra⟩ := rd_all N 8 (D.mono s1) h1
  obtain ⟨bs, rb⟩ := rd_in N 8 (Dv.mono s2) h2
  have l1 := d_listLay h1
  refine mw_contains (N.get hq) (N.get hm) (SeqAt.items_eqAt (by simpa using ra) rb l1.1 (okD_lay 8 _ h2).1 ?_) ?_
  · have := Nat.min_le_left (PyData.depthAll (kqdPs ds)) (kqdP d).depth
    have := l1.2
    omega
  · rw [SeqAt.any_by_data (by simpa using ra) l1.1]
    exact h
end
def WrapAt (q : Addr) (h : Heap) : Prop := ∃ id v, h.get? q = some (mwObj id v)
theorem WrapAt.of {h₀ h : Heap} {L q : Addr} {id : String} {v : Value} {news : List (Addr × Obj)} (N : News h₀ L h news) (hm : (q, mwObj id v) ∈ news) : WrapAt q h := ⟨id, v, N.get hm⟩
theorem keeps_W {M : Model} {q : Addr} (h : Heap) (X : WrapAt q h) : ∃ k, (k = Keeper.frame ∨ k = Keeper.machine ∨ k = Keeper.boundFrame) ∧ Looks M h (keeperOf (.ref q)) k := by
  obtain ⟨id, v, e⟩ := X
  exact ⟨.machine, .inr (.inl rfl), (Looks.ld (part := none) e).andThen .now⟩
theorem callWith_W {M : Model} {A : Around} {E : Value → Shared → Prop} {s : Shared} {env : Env} {pos : Pos} {first : List Value} {Q : Value → Shared → Prop} {q : Addr} {e : Expr} {rest : List Expr} (_X : WrapAt q s.heap) (h : wpAny M A (spliced (backTo pos (starEach (e :: rest) env))) (fun vs s₁ => WrapAt q s₁.heap ∧ wpAny M A (call (.ref q) (first ++ vs)) Q E s₁) E s)
    (he : starEach (e :: rest) env = (false, eval e env) :: starEach rest env := by rfl) (hplain : (backTo pos (starEach rest env)).any (·.1) = false := by rfl) :
    wpAny M A (callWith pos (.ref q) first (backTo pos (starEach (e :: rest) env)) []) Q E s := by
  rw [he] at h ⊢
  exact callWith_of (by show ((false || (backTo pos (starEach rest env)).any (·.1)) || false) = false; rw [hplain]; rfl) keeps_W (evalArgs_plain h)

abbrev itO (l : Addr) (i : Nat) : Obj := { cls := .type "list_iterator", data := .fields #[.ref l, .int (i : Int) 0] }
abbrev itE (i : Nat) : Obj := { cls := .type "list_iterator", data := .fields #[.none, .int (i : Int) 0] }
section
variable {prog : Program} {w : World} {A : Around} {E : Value → Shared → Prop} {s : Shared} {Q : Value → Shared → Prop} {I l : Addr} {i : Nat} {vs : Array Value}
theorem next_item {v : Value} (hit : s.heap.get? I = some (itO l i)) (hl : s.heap.IsList l vs) (hx : vs[i]? = some v)
    (h : ∀ h', h'.get? I = some (itO l (i + 1)) → Heap.SameBut I s.heap h' → Q v { s with heap := h' }) : wpAny (model prog w) A (call (.builtin "next") [.ref I]) Q E s := by
  obtain ⟨ol, hol, _, nl, hdl⟩ := hl
  have hT : s.TypeIs (.ref I) "list_iterator" := ⟨_, hit, rfl⟩
  refine call_function_entry (by decide +kernel) (by decide +kernel) kdk_entry_next (kdk_args_next _) ?_
  unfold Builtin.«next»
  refine wpAny_bind (m := someArgs "next" 1 2 _) (wpAny_of_eq (a := [Value.ref I]) (by first | rfl | kernel_rfl!) ?_)
  dsimp only
  refine wpAny_bind (wpAny_specialOf (name := Str.ofString "__next__") hT slot_listiter_next.lookup ?_)
  refine wpAny_ite_split (fun hab => absurd hab (by decide)) (fun _ => ?_)
  refine wpAny_bind (wpAny_callSpecial?_slot (name := Str.ofString "__next__") hT slot_listiter_next
    (wpAny_call_entry slot_listiter_next hT entry_listiter_next ?_ (args_listiter_next _)))
  show wpAny _ _ (field (.ref I) 0 >>= _) _ _ s
  refine wpAny_bind (wpAny_field hit rfl (x := .ref l) rfl ?_)
  show wpAny _ _ (if (Value.ref l == Value.none) = true then _ else _) _ _ s
  rw [if_neg (show ¬ ((Value.ref l == Value.none) = true) from Bool.false_ne_true)]
  show wpAny _ _ (field (.ref I) 1 >>= _) _ _ s
  refine wpAny_bind (wpAny_field hit rfl (x := .int i 0) rfl ?_)
  show wpAny _ _ (seqItems? (.ref l) >>= _) _ _ s
  refine wpAny_bind (wpAny_seqItems hol hdl ?_)
  simp only [Int.toNat_natCast, hx]
  refine wpAny_bind (wpAny_setField hit rfl (by simp) (wpAny_pure ⟨v, rfl, wpAny_pure ⟨_, rfl, h _ ?_ (Heap.SameBut.update ..)⟩⟩))
  rw [Heap.get?_update_self _ hit rfl]
  simp [Obj.mapFields, rawInt]
theorem next_end (hh : A.handled = none) (hit : s.heap.get? I = some (itO l i)) (hl : s.heap.IsList l vs) (hx : vs[i]? = none)
    (h : ∀ h₁, h₁.get? I = some (itE i) → Heap.SameBut I s.heap h₁ → ∀ h' e, Heap.MadeExc h₁ h' e "StopIteration" [] → E (.ref e) { s with heap := h' }) : wpAny (model prog w) A (call (.builtin "next") [.ref I]) Q E s := by
  obtain ⟨ol, hol, _, nl, hdl⟩ := hl
  have hT : s.TypeIs (.ref I) "list_iterator" := ⟨_, hit, rfl⟩
  refine call_function_entry (by decide +kernel) (by decide +kernel) kdk_entry_next (kdk_args_next _) ?_
  unfold Builtin.«next»
  refine wpAny_bind (m := someArgs "next" 1 2 _) (wpAny_of_eq (a := [Value.ref I]) (by first | rfl | kernel_rfl!) ?_)
  dsimp only
  refine wpAny_bind (wpAny_specialOf (name := Str.ofString "__next__") hT slot_listiter_next.lookup ?_)
  refine wpAny_ite_split (fun hab => absurd hab (by decide)) (fun _ => ?_)
  refine wpAny_bind (wpAny_callSpecial?_slot (name := Str.ofString "__next__") hT slot_listiter_next
    (wpAny_call_entry slot_listiter_next hT entry_listiter_next ?_ (args_listiter_next _)))
  show wpAny _ _ (field (.ref I) 0 >>= _) _ _ s
  refine wpAny_bind (wpAny_field hit rfl (x := .ref l) rfl ?_)
  show wpAny _ _ (if (Value.ref l == Value.none) = true then _ else _) _ _ s
  rw [if_neg (show ¬ ((Value.ref l == Value.none) = true) from Bool.false_ne_true)]
  show wpAny _ _ (field (.ref I) 1 >>= _) _ _ s
  refine wpAny_bind (wpAny_field hit rfl (x := .int i 0) rfl ?_)
  show wpAny _ _ (seqItems? (.ref l) >>= _) _ _ s
  refine wpAny_bind (wpAny_seqItems hol hdl ?_)
  simp only [Int.toNat_natCast, hx]
  refine wpAny_bind (wpAny_rule (wpAny_bind (wpAny_setField hit rfl (by simp) ?_)))
  show wpAny _ _ (newExc (.type "StopIteration") [] >>= _) _ _ _
  refine wpAny_bind ?_
  simp only [newExc, newTuple]
  refine wpAny_bind (wpAny_newObj_type ?_ (by size_fits))
  refine wpAny_bind (m := firstArgMember _ _) (wpAny_of_eq (a := Value.none) (by first | rfl | (simp only [firstArgMember]; rfl)) ?_)
  refine wpAny_newObj_type ?_ (by size_fits)
  simp only [raiseNew]
  refine wpAny_bind (wpAny_handled ?_)
  rw [show A.in1.in1.handled = none from hh]
  refine wpAny_bind (wpAny_pure (wpAny_throw ?_))
  refine h (s.heap.update I (Obj.mapFields (·.setIfInBounds 0 .none))) ?_ (Heap.SameBut.update ..) _ _ ⟨fun b o hb => ?_, ?_, ?_⟩
  · rw [Heap.get?_update_self _ hit rfl]
    simp [Obj.mapFields]
  · exact Heap.get?_push_of_some _ (Heap.get?_push_of_some _ hb)
  · exact Heap.get?_none_of_le (by rw [Heap.size_push]; exact Nat.le_succ _)
  · refine ⟨_, Heap.get?_push_size _ rfl, Heap.get?_none_of_le (Nat.le_refl _), ?_⟩
    exact Heap.get?_push_of_some _ (Heap.get?_push_size _ rfl)
end
section
variable {prog : Program} {w : World} {A : Around} {E : Value → Shared → Prop} {s : Shared} {h₀ : Heap} {L : Addr} {m : Str → Option Value} {news rest : List (Addr × Obj)} {Q : Value → Shared → Prop} {I l : Addr} {i k : Nat} {vs : Array Value}
theorem iter_list (F : Fr h₀ L s.heap m) (N : News h₀ L s.heap news) (hm : (l, W.listOf vs k) ∈ news)
    (h : ∀ I h', Fr h₀ L h' m → News h₀ L h' ((I, itO l 0) :: news) → (∀ p ∈ news, p.1 < I) → Q (.ref I) { s with heap := h' }) : wpAny (model prog w) A (call (.builtin "iter") [.ref l]) Q E s := by
  refine call_function_entry (by decide +kernel) (by decide +kernel) kdk_entry_iter (kdk_args_iter _) ?_
  unfold Builtin.«iter»
  refine wpAny_bind (m := someArgs "iter" 1 2 _) (wpAny_of_eq (a := [Value.ref l]) (by first | rfl | kernel_rfl!) ?_)
  show wpAny _ _ (pyIter (.ref l) >>= _) _ _ _
  refine wpAny_bind (wpAny_pyIter_list ⟨_, N.get hm, rfl, _, rfl⟩ ?_)
  exact wpAny_pure ⟨_, rfl, h _ _ (F.push _) (News.push F N _ rfl) fun q hq => Heap.lt_size (N q hq).1⟩
theorem sameBut_fr {h' : Heap} {o : Obj} (F : Fr h₀ L s.heap m) (N : News h₀ L s.heap ((I, o) :: rest)) (hs : Heap.SameBut I s.heap h') : Fr h₀ L h' m :=
  F.change hs (N _ (.head _)).2.1 (N _ (.head _)).2.2
theorem sameBut_news {h' : Heap} {o o' : Obj} (N : News h₀ L s.heap ((I, o) :: rest)) (off : ∀ p ∈ rest, p.1 ≠ I) (hs : Heap.SameBut I s.heap h') (ho : h'.get? I = some o') : News h₀ L h' ((I, o') :: rest) := by
  intro p hp
  rcases List.mem_cons.mp hp with rfl | hp
  · exact ⟨ho, (N _ (.head _)).2⟩
  · exact ⟨(hs.2 p.1 (off p hp)).trans (N p (.tail _ hp)).1, (N p (.tail _ hp)).2⟩
theorem next_itemN {v : Value} (F : Fr h₀ L s.heap m) (N : News h₀ L s.heap ((I, itO l i) :: rest)) (off : ∀ p ∈ rest, p.1 ≠ I) (hl : (l, W.listOf vs k) ∈ rest) (hx : vs[i]? = some v)
    (h : ∀ h', Fr h₀ L h' m → News h₀ L h' ((I, itO l (i + 1)) :: rest) → Q v { s with heap := h' }) : wpAny (model prog w) A (call (.builtin "next") [.ref I]) Q E s :=
  next_item (N.get (.head _)) ⟨_, N.get (.tail _ hl), rfl, _, rfl⟩ hx fun h' ho hs => h h' (sameBut_fr F N hs) (sameBut_news N off hs ho)
theorem next_endN (hh : A.handled = none) (F : Fr h₀ L s.heap m) (N : News h₀ L s.heap ((I, itO l i) :: rest)) (off : ∀ p ∈ rest, p.1 ≠ I) (hl : (l, W.listOf vs k) ∈ rest) (hx : vs[i]? = none)
    (h : ∀ h₁, Fr h₀ L h₁ m → News h₀ L h₁ ((I, itE i) :: rest) → ∀ h' e, Heap.MadeExc h₁ h' e "StopIteration" [] → E (.ref e) { s with heap := h' }) : wpAny (model prog w) A (call (.builtin "next") [.ref I]) Q E s :=
  next_end hh (N.get (.head _)) ⟨_, N.get (.tail _ hl), rfl, _, rfl⟩ hx fun h₁ ho hs h' e hm => h h₁ (sameBut_fr F N hs) (sameBut_news N off hs ho) h' e hm
end
def Hid (p : Prop) : Prop := p
theorem Hid.out {p : Prop} (h : Hid p) : p := h
theorem whlPost_next {prog : Program} {w : World} {A : Around} {E : Value → Shared → Prop} {s : Shared} {env : Env} {test : PySem.Expr} {body orelse : List Stmt} {Q : Flow → Shared → Prop} {k : Nat}
    (h : Hid (WhlRest prog w A E env test body orelse Q k s)) : WhlPost prog w A E env test body orelse Q k .next s := h
/-- after a raise the ground is turned -/
theorem raised_ground {A₀ : Around} {base g h₀ h : Heap} {outer : List Env} {L a e t : Addr} {m : Str → Option Value} {name : Str} {scope : Scope} {cd : Value} {X : String} {vs : List Value} {news : List (Addr × Obj)}
    (R : RaisedS base g (envOf name scope L a cd :: outer) e (.type X) t vs news h) (hsm : g.UpToSlots h) (B : Below A₀ base outer h₀) (F : Fr h₀ L g m) :
    ∃ g', KtsTurn (outer.filterMap (·.frame)) h₀ g' ∧ Fr g' L h m ∧ Below A₀ base outer g' ∧ News g' L h news ∧ ∃ ob, h.get? e = some ob ∧ ob.cls = .type X := by
  obtain ⟨⟨B', hB, hBG, hl, hfl, hnew⟩, htup⟩ := R
  have hL : B'.get? L = none := by
    obtain ⟨_, ⟨L', _, hf, hn', _⟩, _⟩ := hfl.2.2.1
    obtain rfl : L = L' := Option.some.inj hf
    exact hn'
  obtain ⟨g', T', F', K'⟩ := kts_ground B F hBG hfl.1 hsm
  refine ⟨g', T', F', K', fun q hq => ⟨hfl.1 _ _ (hl q hq).1, (fun z => by have := (hl q hq).1; rw [z, hL] at this; cases this), T'.none_ _ (kts_none F.keep (hl q hq).2.1)⟩, hfl.there⟩

def IsIt (tup : Bool) (l : Addr) (i : Nat) (o : Obj) : Prop := o.cls = .type (if tup then "tuple_iterator" else "list_iterator") ∧ o.data = .fields #[.ref l, .int (i : Int) 0]
def SeqEnd (h₀ : Heap) (L : Addr) (s₁ : Shared) (I : Addr) (tup : Bool) (l : Addr) (i : Nat) (J : (Str → Option Value) → List (Addr × Obj) → Prop) (s₂ : Shared) : Prop :=
  ∃ h' tk m' news' oI, s₂ = { s₁ with heap := h', toks := tk } ∧ Fr h₀ L h' m' ∧ News h₀ L h' ((I, oI) :: news') ∧ IsIt tup l i oI ∧ (∀ p ∈ news', p.1 ≠ I) ∧ J m' news'
def SeqPost (h₀ : Heap) (L : Addr) (s₁ : Shared) (I : Addr) (tup : Bool) (l : Addr) (i : Nat) (J : (Str → Option Value) → List (Addr × Obj) → Prop) (Q : Flow → Shared → Prop) (f : Flow) (s₂ : Shared) : Prop :=
  match f with
  | .ret v => Q (.ret v) s₂
  | .brk => Q .next s₂
  | _ => SeqEnd h₀ L s₁ I tup l i J s₂
def SeqRest (prog : Program) (w : World) (A : Around) (E : Value → Shared → Prop) (h₀ : Heap) (env : Env) (L : Addr) (tgt : PySem.Expr) (body : List Stmt) (Q : Flow → Shared → Prop) (s : Shared) (tup : Bool) (l : Addr) (ol : Obj) : List Value → Nat → (Str → Option Value) → List (Addr × Obj) → Prop
  | [], _, m, news => ∀ h tk, Fr h₀ L h m → News h₀ L h news → Q .next { s with heap := h, toks := tk }
  | v :: vs, i, m, news => ∀ I oI h tk, IsIt tup l (i + 1) oI → Fr h₀ L h m → News h₀ L h ((I, oI) :: news) → (∀ p ∈ news, p.1 ≠ I) →
      wpAny (model prog w) A (assign tgt env v) (fun _ s₂ => wpAny (model prog w) A (execs body env) (SeqPost h₀ L s I tup l (i + 1) (fun m' news' => (l, ol) ∈ news' ∧ SeqRest prog w A E h₀ env L tgt body Q s tup l ol vs (i + 1) m' news') Q) E s₂) E { s with heap := h, toks := tk }
section
variable {prog : Program} {w : World} {A : Around} {E : Value → Shared → Prop} {s s₁ : Shared} {h₀ : Heap} {env : Env} {L : Addr} {tgt : PySem.Expr} {body : List Stmt} {Q : Flow → Shared → Prop} {tup : Bool} {l : Addr} {ol : Obj}
theorem SeqEnd.intro {I : Addr} {i : Nat} {J : (Str → Option Value) → List (Addr × Obj) → Prop} {h' : Heap} {tk : Nat} {m' : Str → Option Value} {oI : Obj} (news' : List (Addr × Obj)) (F : Fr h₀ L h' m') (N : News h₀ L h' ((I, oI) :: news')) (hI : IsIt tup l i oI) (off : ∀ p ∈ news', p.1 ≠ I) (j : J m' news') :
    SeqEnd h₀ L s₁ I tup l i J { s₁ with heap := h', toks := tk } := ⟨h', tk, m', news', oI, rfl, F, N, hI, off, j⟩
def SeqIn (prog : Program) (w : World) (A : Around) (E : Value → Shared → Prop) (h₀ : Heap) (env : Env) (L : Addr) (tgt : PySem.Expr) (body : List Stmt) (Q : Flow → Shared → Prop) (xv : Value) (s₁ : Shared) : Prop :=
  ∃ (tup : Bool) (l : Addr) (its : List Value) (k : Nat) (ol : Obj) (m : Str → Option Value) (news : List (Addr × Obj)), xv = .ref l ∧ ol.cls = .type (if tup then "tuple" else "list") ∧ ol.data = .seq its.toArray k ∧ Fr h₀ L s₁.heap m ∧ News h₀ L s₁.heap news ∧ (l, ol) ∈ news ∧
    SeqRest prog w A E h₀ env L tgt body Q s₁ tup l ol its 0 m news
theorem seq_next {I : Addr} {i : Nat} {oI : Obj} {its : List Value} {k : Nat} {news : List (Addr × Obj)} {Qn : Option Value → Shared → Prop} (hh : A.handled = none) (hc : ol.cls = .type (if tup then "tuple" else "list")) (hd : ol.data = .seq its.toArray k) (N : News h₀ L s.heap ((I, oI) :: news)) (hI : IsIt tup l i oI) (hl : (l, ol) ∈ news)
    (item : ∀ v, its[i]? = some v → ∀ h' o', IsIt tup l (i + 1) o' → h'.get? I = some o' → Heap.SameBut I s.heap h' → Qn (some v) { s with heap := h' })
    (done : its[i]? = none → ∀ h', Heap.ExtBut I s.heap h' → Qn none { s with heap := h' }) : wpAny (model prog w) A (pyNext (.ref I)) Qn E s := by
  have hN := N.get (.head _)
  have hL := N.get (.tail _ hl)
  cases tup with
  | true =>
    cases hx : its[i]? with
    | some v =>
      refine wpAny_pyNext_tuple_item (t := l) (i := i) (items := its.toArray) ⟨oI, hN, hI⟩ ⟨ol, hL, hc, k, hd⟩ (by simpa using hx) fun h' hit hs => ?_
      obtain ⟨o', ho', r⟩ := hit
      exact item v hx h' o' r ho' hs
    | none => exact wpAny_pyNext_tuple_end hh (t := l) (i := i) (items := its.toArray) ⟨oI, hN, hI⟩ ⟨ol, hL, hc, k, hd⟩ (by simpa using hx) fun h' he => done hx h' he
  | false =>
    cases hx : its[i]? with
    | some v =>
      refine wpAny_pyNext_list_item (l := l) (i := i) (items := its.toArray) ⟨oI, hN, hI⟩ ⟨ol, hL, hc, k, hd⟩ (by simpa using hx) fun h' hit hs => ?_
      obtain ⟨o', ho', r⟩ := hit
      exact item v hx h' o' r ho' hs
    | none => exact wpAny_pyNext_list_end hh (l := l) (i := i) (items := its.toArray) ⟨oI, hN, hI⟩ ⟨ol, hL, hc, k, hd⟩ (by simpa using hx) fun h' he => done hx h' he
theorem letGo_it {I : Addr} {i : Nat} {oI : Obj} {target : PySem.Expr} {v : Value} {Q' : Unit → Shared → Prop} {s' : Shared} (ho : s'.heap.get? I = some oI) (hI : IsIt tup l i oI) (h : Q' () s') :
    wpAny (model prog w) A (letOwnedTupleGo target (.ref I) v) Q' E s' := by
  obtain ⟨hc, hd⟩ := hI
  unfold letOwnedTupleGo
  cases target <;> first
    | exact wpAny_pure h
    | (cases v <;> first
        | exact wpAny_pure h
        | (refine wpAny_bind (wpAny_load ho ?_)
           rw [hc, hd]
           cases tup <;> exact wpAny_pure h))
theorem seq_for {iter : PySem.Expr} {pos : Pos} {mD : Str → Option Value} (_F : Fr h₀ L s.heap mD) (hh : A.handled = none) (h : wpAny (model prog w) A (eval iter env) (SeqIn prog w A E h₀ env L tgt body Q) E s)
    (hs : ∀ x, foldedSetIterable iter env x = pure x := by intro _; rfl) (hE : PassesOwn (model prog w) A env E := by passes_own) :
    wpAny (model prog w) A (exec (.For tgt iter body [] pos) env) Q E s := by
  refine wpAny_For (wpAny_mono h (fun xv s₁ h₁ => ?_) fun _ _ z => z) hs
  obtain ⟨tup, l, its, k, ol, m, news, rfl, hc, hd, F, N, hl, R⟩ := h₁
  have go : ∀ (I : Addr) (o : Obj), I = s₁.heap.objs.size → o.isFreed = false → IsIt tup l 0 o →
      codeAny (model prog w) A (.forLoop tgt (.ref I) body [] env) (fun r s' => match r with | .ok f => Q f s' | .error e => cameBackBy (model prog w) A env E e s') { s₁ with heap := s₁.heap.push o } := by
    rintro I o rfl hfr hI
    refine codeAny_forLoop_any (R := fun r s' => match r with | .ok f => Q f s' | .error e => cameBackBy (model prog w) A env E e s')
      (fun n s' => ∃ i m' news' oI h' tk, s' = { s₁ with heap := h', toks := tk } ∧ n = its.length - i ∧ Fr h₀ L h' m' ∧ News h₀ L h' ((s₁.heap.objs.size, oI) :: news') ∧ IsIt tup l i oI ∧ (∀ p ∈ news', p.1 ≠ s₁.heap.objs.size) ∧ (l, ol) ∈ news' ∧
        SeqRest prog w A E h₀ env L tgt body Q s₁ tup l ol (its.drop i) i m' news') ?_ its.length
        ⟨0, m, news, o, _, s₁.toks, rfl, rfl, F.push _, N.push F o hfr, hI, fun p hp => Nat.ne_of_lt (Heap.lt_size (N p hp).1), hl, R⟩
    rintro n s' ⟨i, m', news', oI, h', tk, rfl, rfl, F', N', hI', off, hl', R'⟩
    refine wpAny_passesOwn hE (seq_next (ol := ol) hh hc hd N' hI' hl' (fun v hx h'' o'' hI'' ho hs => ?_) fun hx h'' he => ?_)
    · have hlt := (List.getElem?_eq_some_iff.mp hx).1
      rw [List.drop_eq_getElem_cons hlt] at R'
      have hv : its[i] = v := (List.getElem?_eq_some_iff.mp hx).2
      rw [hv] at R'
      have hN := N' _ (.head _)
      have F'' : Fr h₀ L h'' m' := F'.change hs hN.2.1 hN.2.2
      have N'' : News h₀ L h'' ((s₁.heap.objs.size, o'') :: news') := by
        intro p hp
        rcases List.mem_cons.mp hp with rfl | hp
        · exact ⟨ho, hN.2⟩
        · exact ⟨(hs.2 p.1 (off p hp)).trans (N' p (.tail _ hp)).1, (N' p (.tail _ hp)).2⟩
      refine letGo_it ho hI'' ?_
      refine wpAny_passesOwn hE (wpAny_mono (R' s₁.heap.objs.size o'' h'' tk hI'' F'' N'' off) (fun _ s₂ h₂ => ?_) fun _ _ z => z)
      refine wpAny_passesOwn hE (wpAny_mono h₂ (fun f s₃ h₃ => ?_) fun _ _ z => z)
      have fin : SeqEnd h₀ L s₁ s₁.heap.objs.size tup l (i + 1) (fun m' news' => (l, ol) ∈ news' ∧ SeqRest prog w A E h₀ env L tgt body Q s₁ tup l ol (its.drop (i + 1)) (i + 1) m' news') s₃ →
          ∃ mm, mm < its.length - i ∧ ∃ i m' news' oI h' tk, s₃ = { s₁ with heap := h', toks := tk } ∧ mm = its.length - i ∧ Fr h₀ L h' m' ∧ News h₀ L h' ((s₁.heap.objs.size, oI) :: news') ∧ IsIt tup l i oI ∧ (∀ p ∈ news', p.1 ≠ s₁.heap.objs.size) ∧ (l, ol) ∈ news' ∧
          SeqRest prog w A E h₀ env L tgt body Q s₁ tup l ol (its.drop i) i m' news' := fun z => by
        obtain ⟨h3, tk3, m3, news3, o3, rfl, F3, N3, hI3, off3, hl3, R3⟩ := z
        exact ⟨its.length - (i + 1), by omega, i + 1, m3, news3, o3, h3, tk3, rfl, rfl, F3, N3, hI3, off3, hl3, R3⟩
      cases f with
      | next => exact fin h₃
      | cont => exact fin h₃
      | brk => exact h₃
      | ret v => exact h₃
    · have hge := List.getElem?_eq_none_iff.mp hx
      rw [List.drop_eq_nil_of_le hge] at R'
      have hN := N' _ (.head _)
      have F'' : Fr h₀ L h'' m' := by
        refine ⟨?_, fun b o e => he b o (fun q => ?_) (F'.keep b o e), F'.above⟩
        · obtain ⟨oL, a1, a2, hoL, a3⟩ := F'.ns
          exact ⟨oL, a1, a2, he _ _ (Ne.symm hN.2.1) hoL, a3⟩
        · rw [q, hN.2.2] at e; cases e
      have N'' : News h₀ L h'' news' := fun p hp => ⟨he p.1 p.2 (off p hp) (N' p (.tail _ hp)).1, (N' p (.tail _ hp)).2⟩
      exact wpAny_execs_nil (R' h'' tk F'' N'')
  cases tup with
  | true => exact wpAny_pyIter_tuple ⟨ol, N.get hl, hc, k, hd⟩ (go _ _ rfl rfl ⟨rfl, rfl⟩)
  | false => exact wpAny_pyIter_list ⟨ol, N.get hl, hc, k, hd⟩ (go _ _ rfl rfl ⟨rfl, rfl⟩)
end
section
variable {M : Model} {A : Around} {E : Value → Shared → Prop} {s : Shared} {h₀ : Heap} {L a : Addr} {m : Str → Option Value} {cn : Str} {cs : Scope} {ccd : Value} {cl : List (Str × Addr)}
  {x : Str} {v : Value} {Q : Unit → Shared → Prop} {news : List (Addr × Obj)} {c : Addr} {o : Obj} {v₀ : Option Value}
theorem store_cellN (rest : List (Addr × Obj)) (F : Fr h₀ L s.heap m) (N : News h₀ L s.heap news) (hc : cl.lookup x = some c) (hm : (c, o) ∈ news) (hd : o.data = .cell v₀) (hsub : ∀ p ∈ rest, p ∈ news) (ha : ∀ p ∈ rest, p.1 ≠ c)
    (h : ∀ h' o', Fr h₀ L h' m → News h₀ L h' ((c, o') :: rest) → o'.data = .cell (some v) → Q () { s with heap := h' })
    (hk : cs.kind = .function := by rfl) (hx : (envX cn cs L a ccd cl).kindOf x = some .cell := by rfl) : wpAny M A (storeName (envX cn cs L a ccd cl) x v) Q E s := by
  have hmem := N (c, o) hm
  refine wpAny_storeName_cell hk hx hc ⟨o, hmem.1, hd⟩ fun h' hv hs => ?_
  obtain ⟨o', ho', hd'⟩ := hv
  refine h h' o' (F.change hs hmem.2.1 hmem.2.2) ?_ hd'
  intro p hp
  rcases List.mem_cons.mp hp with rfl | hp
  · exact ⟨ho', hmem.2⟩
  · exact ⟨(hs.2 p.1 (ha p hp)).trans (N p (hsub p hp)).1, (N p (hsub p hp)).2⟩
end
theorem seq_gen {α β γ δ : Type} {P Inv : α → β → γ → δ → Prop} {a : α} {b : β} {c : γ} {d : δ} (h : Inv a b c d) (k : ∀ a b c d, Inv a b c d → P a b c d) : P a b c d := k a b c d h
section
variable {prog : Program} {w : World} {A : Around} {E : Value → Shared → Prop} {s : Shared} {h₀ : Heap} {L S : Addr} {m : Str → Option Value} {news : List (Addr × Obj)}
theorem append_N {acc : List Value} {c : Nat} {x : Value} {Q : Value → Shared → Prop} (rest : List (Addr × Obj)) (F : Fr h₀ L s.heap m) (N : News h₀ L s.heap news) (hm : (S, W.listOf acc.toArray c) ∈ news) (hsub : ∀ p ∈ rest, p ∈ news) (ha : ∀ p ∈ rest, p.1 ≠ S)
    (hsz : acc.length ≤ 1000) (h : ∀ h', Fr h₀ L h' m → News h₀ L h' ((S, W.listOf (acc ++ [x]).toArray (c + 1)) :: rest) → Q .none { s with heap := h' }) : wpAny (model prog w) A (call (.builtin "list.append") [.ref S, x]) Q E s := by
  have z := N _ hm
  refine append_at (its := acc.toArray) (n := c) (hsz := by rw [sizeLine_eq, List.size_toArray]; omega) z.1 fun h' hs ho' => h h' (F.change hs z.2.1 z.2.2) ?_
  intro p hp
  rcases List.mem_cons.mp hp with rfl | hp
  · refine ⟨?_, z.2⟩
    rw [ho', List.push_toArray]
  · have z' := N p (hsub p hp)
    exact ⟨(hs.2 _ (ha p hp)).trans z'.1, z'.2⟩
end

section
variable {prog : Program} {w : World} {A₀ A : Around} {s : Shared} {base h₀ : Heap} {L a : Addr} {m : Str → Option Value} {env : Env} {news : List (Addr × Obj)} {K : Frag} {p : Program} {loose : List Str} {mean : ExcName → Option Value} {mg mb : Str → Option Value}
    {R : Result → Shared → Prop} {name qual : Str} {params : Arguments} {body : List Stmt} {scope : Scope} {dV kV doc pm cdv ct oc : Value} {an od : Option Addr} {osl : Array (Option Value)} {f : Addr} {args : Args} {binds : List (Str × Value)}
/-- a def entered whose leaving may turn the caller's slots (nothing but the caller below) -/
theorem code_defSx (B : Below A₀ base [] h₀) (F : Fr h₀ L s.heap m) (X₀ : K.In h₀) (N : News h₀ L s.heap news) (T : Top p loose mean mg mb h₀) (hA : A.frames = some [env]) (hf : env.frame = some L) (hke : env.scope.kind = .function)
    (ho : K.lookup f = some ⟨oc, od, .func (fnOf name qual params body scope dV kV doc pm an cdv ct), osl⟩) (hcd : codeIn K cdv qual = true) (hroom : A.depth < recursionLimit)
    (hbind : BindsTo s (fnOf name qual params body scope dV kV doc pm an cdv ct) args binds) (hloc : ∀ y ∈ binds, scope.names.lookup y.1 = some .local)
    (h : ∀ g L' h₁, Fr h₀ L g m → Fr g L' h₁ (fun y => binds.reverse.lookup y) → News g L' h₁ news → Below A base [env] g → K.In g → Top p loose mean mg mb g →
      wpAny (model prog w) (A.deeper (envOf qual scope L' f cdv)) (execs body (envOf qual scope L' f cdv))
        (fun fl s' => LeaveS0 [L] h₀ L m g R (match fl with | .ret v => v | _ => .none) s')
        (fun e s' => wpAny (model prog w) (A.deeper (envOf qual scope L' f cdv)) (leaving (envOf qual scope L' f cdv) e) (fun _ s'' => R (.error e) s'') (fun e' s'' => R (.error e') s'') s')
        { s with heap := h₁, toks := s.toks + binds.length })
    (hco : scope.isCoroutine = false) (hgen : scope.isGenerator = false) (hk : scope.kind = .function)
    (hcell : ∀ x ∈ scope.names, x.2 ≠ .cell) : codeAny (model prog w) A (.call (.ref f) args) R s := by
  have X := X₀.keeps F.keep
  obtain ⟨FG, BG, st, _⟩ := groundX (R := R) B F N hA hf hke
  refine codeAny_call_def (fd := fnOf name qual params body scope dV kV doc pm an cdv ct) (body := body) (binds := binds) hroom (X _ _ ho) rfl (T.nolimit.keeps F.keep) (codeRec_of X hcd) rfl hbind hcell hloc (fun h₁ hns hk₁ => ?_) hco hgen hk
  refine wpAny_mono (h _ s.heap.objs.size h₁ FG ⟨hns, fun b o e => hk₁ b o (of_hideAll _ e), Nat.le_of_eq (hideAll_size _ _)⟩
    (fun p hp => ⟨hk₁ _ _ (N p hp).1, Nat.ne_of_lt (Heap.lt_size (N p hp).1), hideAll_none _ (List.mem_map_of_mem hp)⟩) BG (X₀.keeps st) (T.keeps st)) (fun fl s' hl => ?_) fun _ _ y => y
  obtain ⟨oL, es, ep, hLg, hLd, hLk, hLf⟩ := FG.ns
  obtain ⟨g', L', m', news', T', F', N', k⟩ := hl
  have nL₀ : h₀.get? L = none := kts_self F
  obtain ⟨sl, hs⟩ := T'.up hLg
  refine k ⟨⟨_, es, ep, F'.keep _ _ hs, hLd, hLk, hLf⟩, fun b o e => F'.keep b o (T'.other b o (st b o e) (fun q => by
    rw [List.mem_singleton.mp q, nL₀] at e
    cases e)), F.above⟩ fun p hp => ⟨(N' p hp).1, fun q => ?_, ?_⟩
  · have := (N' p hp).2.2; rw [q, hs] at this; cases this
  · cases q : h₀.get? p.1 with
    | none => rfl
    | some o =>
      obtain ⟨sl', hs'⟩ := T'.up (st _ _ q)
      have := (N' p hp).2.2
      rw [hs'] at this
      cases this
end
/-- what a call of f gives where nothing but the caller's frame is below -/
def Tel0 (prog : Program) (w : World) (K : Frag) (p : Program) (loose : List Str) (mean : ExcName → Option Value) (mg mb : Str → Option Value) (f : Addr) (k : Nat)
    (Rel : List (Addr × Obj) → List Value → Prop) (Out : List (Addr × Obj) → Value → Prop) : Prop :=
  ∀ (dp un : Nat) (gd : Option (List Code)) (cn : Str) (cs : Scope) (a : Addr) (ccd : Value) (cl : List (Str × Addr)) (A₀ : Around) (base h₀ : Heap) (L : Addr) (m : Str → Option Value) (news sub : List (Addr × Obj)) (s : Shared) (vs : List Value)
    (Q E : Value → Shared → Prop),
    Below A₀ base [] h₀ → Fr h₀ L s.heap m → K.In h₀ → News h₀ L s.heap news → Top p loose mean mg mb h₀ → cs.kind = .function → (∀ q ∈ sub, q ∈ news) → Rel sub vs → dp + k < recursionLimit → un + 8 * k < cLine →
    (∀ r tl h' tk', Fr h₀ L h' m → News h₀ L h' (news ++ tl) → (∀ q ∈ news, ∀ p ∈ tl, p.1 ≠ q.1) → Out (sub ++ tl) r → Q r { s with heap := h', toks := tk' }) →
    wpAny (model prog w) (ktrTop dp un gd cn cs L a ccd cl []) (call (.ref f) vs) Q E s
theorem tel_use0 {prog : Program} {w : World} {K : Frag} {p : Program} {loose : List Str} {mean : ExcName → Option Value} {mg mb : Str → Option Value} {f : Addr} {k : Nat} {Rel : List (Addr × Obj) → List Value → Prop} {Out : List (Addr × Obj) → Value → Prop}
    {dp un : Nat} {gd : Option (List Code)} {cn : Str} {cs : Scope} {a : Addr} {ccd : Value} {cl : List (Str × Addr)} {A₀ : Around} {base h₀ : Heap} {L : Addr} {m : Str → Option Value} {news sub : List (Addr × Obj)} {s : Shared} {vs : List Value}
    {Q E : Value → Shared → Prop} (C : Tel0 prog w K p loose mean mg mb f k Rel Out) (B : Below A₀ base [] h₀) (F : Fr h₀ L s.heap m) (X : K.In h₀) (N : News h₀ L s.heap news) (T : Top p loose mean mg mb h₀) (hk : cs.kind = .function) (hs : ∀ q ∈ sub, q ∈ news) (R : Rel sub vs)
    (hd : dp + k < recursionLimit) (hu : un + 8 * k < cLine)
    (ret : ∀ r tl h' tk', Fr h₀ L h' m → News h₀ L h' (news ++ tl) → (∀ q ∈ news, ∀ p ∈ tl, p.1 ≠ q.1) → Out (sub ++ tl) r → Q r { s with heap := h', toks := tk' }) :
    wpAny (model prog w) (ktrTop dp un gd cn cs L a ccd cl []) (call (.ref f) vs) Q E s := C _ _ _ _ _ _ _ _ _ _ _ _ _ _ _ _ _ _ _ B F X N T hk hs R hd hu ret
theorem keepIn_fn {K : Frag} {f : Addr} {oc : Value} {od : Option Addr} {fd : FuncData} {sl : Array (Option Value)} (h : K.lookup f = some ⟨oc, od, .func fd, sl⟩) : keepIn K (.ref f) = true := by
  unfold keepIn
  simp only [h]

open_top hd for PySem.Challenge.rw_ij0164_01
local macro_rules | `(tactic| walk_at $s:str) => `(tactic| k_extra $s)

abbrev ffObj (d q I : Addr) : Obj := { cls := .ref 139, dict := some d, slots := #[some (.ref q), some (.ref I)] }
/-- is kept by filterfalse -/
def keptD (sk : List Dat) (d : Dat) : Bool := !((kqdPs sk).any fun y => PyData.eqv y (kqdP d))
def nextM (x q : Addr) (ov : Option Value) (y : Str) : Option Value := if y = "item" then ov else if y = "func" then some (.ref q) else if y = "self" then some (.ref x) else none
theorem next_tel {w : World} {mean : ExcName → Option Value} {mg mb : Str → Option Value} {A A₀ : Around} {E : Value → Shared → Prop} {Q : Value → Shared → Prop} {s : Shared} {base h₀ : Heap} {outer : List Env} {cn : Str} {cs : Scope} {L a : Addr} {ccd : Value} {m : Str → Option Value} {rest n1 n2 : List (Addr × Obj)} {I x d q l k : Addr} {vs us : List Value} {fs sk : List Dat} {nv nu : Nat}
    (hA : A.frames = some (envOf cn cs L a ccd :: outer)) (hh : A.handled = none) (hck : cs.kind = .function) (hroom : A.depth < recursionLimit) (hu : A.units + 80 < cLine)
    (B : Below A₀ base outer h₀) (F : Fr h₀ L s.heap m) (X : (hd.heap_39 w.params).In h₀) (T : Top hd.view_39 (looseW hd.view_39 [Str.ofString "filterfalse"]) mean mg mb h₀)
    (off : ∀ p ∈ (x, ffObj d q I) :: (d, dictOf [] 0) :: (q, mwObj "list.__contains__" (.ref k)) :: rest, p.1 ≠ I) (hl : (l, W.listOf vs.toArray nv) ∈ rest) (hk : (k, W.listOf us.toArray nu) ∈ rest)
    (D1 : DatAll n1 vs fs) (D2 : DatAll n2 us sk) (s1 : ∀ p ∈ n1, p ∈ rest) (s2 : ∀ p ∈ n2, p ∈ rest) (h1 : ∀ d ∈ fs, okD 8 d = true) (h2 : ∀ d ∈ sk, okD 8 d = true) (i : Nat)
    (N : News h₀ L s.heap ((I, itO l i) :: (x, ffObj d q I) :: (d, dictOf [] 0) :: (q, mwObj "list.__contains__" (.ref k)) :: rest))
    (item : ∀ j v e h' tk, i ≤ j → vs[j]? = some v → fs[j]? = some e → keptD sk e = true → (∀ c e', i ≤ c → c < j → fs[c]? = some e' → keptD sk e' = false) → Fr h₀ L h' m →
      News h₀ L h' ((I, itO l (j + 1)) :: (x, ffObj d q I) :: (d, dictOf [] 0) :: (q, mwObj "list.__contains__" (.ref k)) :: rest) → Q v { s with heap := h', toks := tk })
    (stop : ∀ g' h' e tk, (∀ c e', i ≤ c → fs[c]? = some e' → keptD sk e' = false) → KtsTurn (outer.filterMap (·.frame)) h₀ g' → Fr g' L h' m → Below A₀ base outer g' → News g' L h' rest → (∃ ob, h'.get? e = some ob ∧ ob.cls = .type "StopIteration") → E (.ref e) { s with heap := h', toks := tk }) :
    wpAny (model PySem.Challenge.rw_ij0164_01.row.prog w) A (call (.ref 135) [.ref x]) Q E s := by
  revert X
  k_fill
  w_top off
  intro X
  k_with_none
  k_with "MineMem" => (first | (with_reducible assumption) | (with_reducible exact List.mem_cons_self) | ((with_reducible refine List.mem_append.mpr (Or.inl ?_)); walk_at "MineMem") | ((with_reducible refine List.mem_append.mpr (Or.inr ?_)); walk_at "MineMem") | ((with_reducible refine List.mem_cons_of_mem _ ?_); walk_at "MineMem"))
  k_with "eval ListComp" => ((k_here; k_dflt (refine LCg.ListComp_U (F₀ := by k_asm) (by with_unfolding_all rfl) (by decide) (by rfl) (by decide) (by rfl) ?_)))
  k_with "MineItem" => (first | exact DatIn.none | exact DatIn.bool _ | exact DatIn.int _ _ | exact DatIn.str _ _ | assumption | (refine DatIn.mono ?_ (by assumption); (intro p hp; (try simp only [List.mem_append, List.mem_cons] at hp ⊢); grind)))
  k_with "MineLt" => (first | assumption | exact allLt_of (by assumption) | tbn_find | (simp only [AllLt, and_true]; tbn_conj))
  k_with "MineTup" => ((refine DatIn.tuple (List.mem_append.mpr (Or.inr (List.Mem.head _))) ?_; repeat' (first | exact DatAll.nil | refine DatAll.cons ?_ ?_ | walk_at "MineItem")))
  k_with "TurnEnd" => ((refine TurnEnd.intro [(_, _)] (by assumption) (tl1 (by assumption)) (off1 (by walk_at "MineLt")) (by walk_at "MineTup")))
  k_with "MineSub" => (first | exact fun _ h => h | assumption | (intro p hp; first | (exact List.Mem.tail _ (by assumption)) | (simp only [List.mem_append, List.mem_cons, List.not_mem_nil, or_false] at hp ⊢; grind)))
  k_with "subscriptTail" => ((k_here; (with_reducible show wpAny _ _ (subscriptTail _ _ (Value.ref _) (Value.int _ _)) _ _ _); k_dflt (refine' item_tupleT ?mwt ?mwa ?mwb ?mwc ?mwd ?_; (case mwt => exact News.isTup (by k_asm) (by walk_at "MineMem")); (case mwa => decide); (case mwb => decide); (case mwc => rfl); (case mwd => rfl); k_whole)))
  k_with "MineRoom" => (first | assumption | ktr_room | (dsimp only [ktrTop, Around.deeper, Around.in1] at *; simp only [recursionLimit] at *; omega))
  k_with "MineUnits" => (first | ktr_units | (have hcL9 := cLine_is; dsimp only [ktrTop, Around.deeper, Around.in1] at *; omega))
  k_with "And" => (((with_reducible show WrapAt _ _ ∧ _); k_dflt (refine ⟨WrapAt.of (by k_asm) (by walk_at "MineMemD"), ?_⟩); (try dsimp only [List.nil_append, List.cons_append])))
  k_with "eval Name" => ((k_here; (with_reducible show wpAny _ _ (eval (Expr.Name _ _) (compEnvC _ _ _ _)) _ _ _); k_dflt (first | refine LCgL.ld_own (by k_asm) (by walk_at "MineMem") (by assumption) (by assumption) ?_ | refine LCgL.ld_global (by k_asm) (by k_asm) (by k_asm) (by k_is) ?_ | refine LCgL.ld_built (by k_asm) (by k_asm) (by k_asm) (by k_is) (by boot_by_name) (by decide) ?_)))
  k_with "MineMemD" => ((repeat' (first | assumption | exact List.mem_cons_self | (refine List.mem_cons_of_mem _ ?_) | (refine List.mem_append.mpr (Or.inl ?_)) | fail "MineMemD")))
  k_with "exec" => ((with_reducible show wpAny _ _ (exec (Stmt.While _ _ _ _) _) _ _ _); refine whl_start 0 (Hid.out ?_))
  refine wpAny_call ?_
  k_dflt (refine' code_def ?me1 ?me2 ?me3 ?me4 ?me5 ?meA ?meF ?meK ?me6 ?me7 ?me8 ?me9 ?meB ?_ ?mec2 ?mec3 ?mec4 ?mec5; (case meA => first | exact rfl | assumption); (case meF => exact rfl); (case meK => first | exact rfl | assumption); (case me1 => k_asm); (case me2 => k_asm); (case me3 => k_asm); (case me4 => k_asm); (case me5 => k_asm); (case me6 => k_is); (case me7 => k_is); (case me8 => walk_at "MineRoom"); (case me9 => first | exact BindsTo.of_eq rfl | exact binds_K (by k_in) rfl (by k_is) rfl rfl rfl); (case mec5 => decide); (case meB => exact locs rfl); (case mec2 => exact rfl); (case mec3 => exact rfl); (case mec4 => exact rfl); k_whole; intro _ _ _ _ _ _ _ _ _; (try dsimp only); (try k_fold))
  k_steps
  rename_i g1 L1 hq FG' B' X' T' hp F' N'
  unfold Hid
  have F2 : Fr g1 L1 hp (nextM x q none) := by
    refine (?_ : _ = nextM x q none) ▸ F'
    funext y
    show (if y = "func" then some (Value.ref q) else List.lookup y [("self", Value.ref x)]) = _
    unfold nextM
    by_cases h1 : y = "func"
    · subst h1; rfl
    · by_cases h2 : y = "self"
      · subst h2; rfl
      · rw [if_neg h1, if_neg h1, if_neg h2, List.lookup, show (y == "self") = false from by simpa using h2]
        simp [List.lookup]
  clear F'
  have F' : ∃ ov, Fr g1 L1 hp (nextM x q ov) := ⟨_, F2⟩
  clear F2
  have N2 : ∃ i', News g1 L1 hp ((I, itO l i') :: (x, ffObj d q I) :: (d, dictOf [] 0) :: (q, mwObj "list.__contains__" (.ref k)) :: rest) ∧ i ≤ i' ∧ ∀ c e', i ≤ c → c < i' → fs[c]? = some e' → keptD sk e' = false := ⟨i, N', Nat.le_refl _, fun c e' h1 h2 => absurd h2 (by omega)⟩
  clear N'
  obtain ⟨i', N', hi, hskip⟩ := N2
  have hn : ∃ n, vs.length - i' = n := ⟨_, rfl⟩
  obtain ⟨n, hn⟩ := hn
  have htk : ∃ tt, tk + 1 + 1 = tt := ⟨_, rfl⟩
  obtain ⟨tt, htk⟩ := htk
  rw [htk]
  clear htk
  induction n generalizing i' hp tt with
  | zero => 
    obtain ⟨ov, F'⟩ := F'
    unfold nextM at F'
    have hnone : vs.toArray[i']? = none := by simp; omega
    k_with_none
    k_with "MineMem" => (first | (with_reducible assumption) | (with_reducible exact List.mem_cons_self) | ((with_reducible refine List.mem_append.mpr (Or.inl ?_)); walk_at "MineMem") | ((with_reducible refine List.mem_append.mpr (Or.inr ?_)); walk_at "MineMem") | ((with_reducible refine List.mem_cons_of_mem _ ?_); walk_at "MineMem"))
    k_with "eval ListComp" => ((k_here; k_dflt (refine LCg.ListComp_U (F₀ := by k_asm) (by with_unfolding_all rfl) (by decide) (by rfl) (by decide) (by rfl) ?_)))
    k_with "MineItem" => (first | exact DatIn.none | exact DatIn.bool _ | exact DatIn.int _ _ | exact DatIn.str _ _ | assumption | (refine DatIn.mono ?_ (by assumption); (intro p hp; (try simp only [List.mem_append, List.mem_cons] at hp ⊢); grind)))
    k_with "MineLt" => (first | assumption | exact allLt_of (by assumption) | tbn_find | (simp only [AllLt, and_true]; tbn_conj))
    k_with "MineTup" => ((refine DatIn.tuple (List.mem_append.mpr (Or.inr (List.Mem.head _))) ?_; repeat' (first | exact DatAll.nil | refine DatAll.cons ?_ ?_ | walk_at "MineItem")))
    k_with "TurnEnd" => ((refine TurnEnd.intro [(_, _)] (by assumption) (tl1 (by assumption)) (off1 (by walk_at "MineLt")) (by walk_at "MineTup")))
    k_with "MineSub" => (first | exact fun _ h => h | assumption | (intro p hp; first | (exact List.Mem.tail _ (by assumption)) | (simp only [List.mem_append, List.mem_cons, List.not_mem_nil, or_false] at hp ⊢; grind)))
    k_with "subscriptTail" => ((k_here; (with_reducible show wpAny _ _ (subscriptTail _ _ (Value.ref _) (Value.int _ _)) _ _ _); k_dflt (refine' item_tupleT ?mwt ?mwa ?mwb ?mwc ?mwd ?_; (case mwt => exact News.isTup (by k_asm) (by walk_at "MineMem")); (case mwa => decide); (case mwb => decide); (case mwc => rfl); (case mwd => rfl); k_whole)))
    k_with "MineRoom" => (first | assumption | ktr_room | (dsimp only [ktrTop, Around.deeper, Around.in1] at *; simp only [recursionLimit] at *; omega))
    k_with "MineUnits" => (first | ktr_units | (have hcL9 := cLine_is; dsimp only [ktrTop, Around.deeper, Around.in1] at *; omega))
    k_with "And" => (((with_reducible show WrapAt _ _ ∧ _); k_dflt (refine ⟨WrapAt.of (by k_asm) (by walk_at "MineMemD"), ?_⟩); (try dsimp only [List.nil_append, List.cons_append])))
    k_with "eval Name" => ((k_here; (with_reducible show wpAny _ _ (eval (Expr.Name _ _) (compEnvC _ _ _ _)) _ _ _); k_dflt (first | refine LCgL.ld_own (by k_asm) (by walk_at "MineMem") (by assumption) (by assumption) ?_ | refine LCgL.ld_global (by k_asm) (by k_asm) (by k_asm) (by k_is) ?_ | refine LCgL.ld_built (by k_asm) (by k_asm) (by k_asm) (by k_is) (by boot_by_name) (by decide) ?_)))
    k_with "MineMemD" => ((repeat' (first | assumption | exact List.mem_cons_self | (refine List.mem_cons_of_mem _ ?_) | (refine List.mem_append.mpr (Or.inl ?_)) | fail "MineMemD")))
    k_with "call builtin:next" => (refine next_endN hh (by k_asm) (by k_asm) off (.tail _ (.tail _ (.tail _ hl))) hnone ?_; intro h₁ F₁ N₁ h₂ e₂ hm₂)
    k_with "leaving ref" => (refine leave_raiseS B' hm₂.of F₁ N₁ ?_; intro h₃ t₃ R₃ RK₃ U₃)
    refine whl_turn (k := 0) (by passes_own) ?_
    k_steps
    obtain ⟨g', T'', F'', B'', N'', hob⟩ := raised_ground R₃ U₃ B FG'
    refine stop g' h₃ e₂ _ ?_ T'' F'' B'' (fun p hp => N'' p (.tail _ (.tail _ (.tail _ (.tail _ hp))))) hob
    intro c e' hc hce
    refine hskip c e' hc ?_ hce
    have hc2 := (List.getElem?_eq_some_iff.mp hce).1
    have hlen := D1.length
    omega
  | succ n ih =>
    obtain ⟨ov, F'⟩ := F'
    unfold nextM at F'
    have hlen := D1.length
    obtain ⟨v, hv⟩ : ∃ v, vs[i']? = some v := ⟨_, List.getElem?_eq_getElem (show i' < vs.length by omega)⟩
    have D1' : DatAll n1 vs (fs.map id) := by simpa using D1
    obtain ⟨e, he, hD⟩ := datAll_get D1' hv
    simp only [id] at hD
    have hva : vs.toArray[i']? = some v := by simpa using hv
    k_with_none
    k_with "MineMem" => (first | (with_reducible assumption) | (with_reducible exact List.mem_cons_self) | ((with_reducible refine List.mem_append.mpr (Or.inl ?_)); walk_at "MineMem") | ((with_reducible refine List.mem_append.mpr (Or.inr ?_)); walk_at "MineMem") | ((with_reducible refine List.mem_cons_of_mem _ ?_); walk_at "MineMem"))
    k_with "eval ListComp" => ((k_here; k_dflt (refine LCg.ListComp_U (F₀ := by k_asm) (by with_unfolding_all rfl) (by decide) (by rfl) (by decide) (by rfl) ?_)))
    k_with "MineItem" => (first | exact DatIn.none | exact DatIn.bool _ | exact DatIn.int _ _ | exact DatIn.str _ _ | assumption | (refine DatIn.mono ?_ (by assumption); (intro p hp; (try simp only [List.mem_append, List.mem_cons] at hp ⊢); grind)))
    k_with "MineLt" => (first | assumption | exact allLt_of (by assumption) | tbn_find | (simp only [AllLt, and_true]; tbn_conj))
    k_with "MineTup" => ((refine DatIn.tuple (List.mem_append.mpr (Or.inr (List.Mem.head _))) ?_; repeat' (first | exact DatAll.nil | refine DatAll.cons ?_ ?_ | walk_at "MineItem")))
    k_with "TurnEnd" => ((refine TurnEnd.intro [(_, _)] (by assumption) (tl1 (by assumption)) (off1 (by walk_at "MineLt")) (by walk_at "MineTup")))
    k_with "MineSub" => (first | exact fun _ h => h | assumption | (intro p hp; first | (exact List.Mem.tail _ (by assumption)) | (simp only [List.mem_append, List.mem_cons, List.not_mem_nil, or_false] at hp ⊢; grind)))
    k_with "subscriptTail" => ((k_here; (with_reducible show wpAny _ _ (subscriptTail _ _ (Value.ref _) (Value.int _ _)) _ _ _); k_dflt (refine' item_tupleT ?mwt ?mwa ?mwb ?mwc ?mwd ?_; (case mwt => exact News.isTup (by k_asm) (by walk_at "MineMem")); (case mwa => decide); (case mwb => decide); (case mwc => rfl); (case mwd => rfl); k_whole)))
    k_with "MineRoom" => (first | assumption | ktr_room | (dsimp only [ktrTop, Around.deeper, Around.in1] at *; simp only [recursionLimit] at *; omega))
    k_with "MineUnits" => (first | ktr_units | (have hcL9 := cLine_is; dsimp only [ktrTop, Around.deeper, Around.in1] at *; omega))
    k_with "And" => (((with_reducible show WrapAt _ _ ∧ _); k_dflt (refine ⟨WrapAt.of (by k_asm) (by walk_at "MineMemD"), ?_⟩); (try dsimp only [List.nil_append, List.cons_append])))
    k_with "eval Name" => ((k_here; (with_reducible show wpAny _ _ (eval (Expr.Name _ _) (compEnvC _ _ _ _)) _ _ _); k_dflt (first | refine LCgL.ld_own (by k_asm) (by walk_at "MineMem") (by assumption) (by assumption) ?_ | refine LCgL.ld_global (by k_asm) (by k_asm) (by k_asm) (by k_is) ?_ | refine LCgL.ld_built (by k_asm) (by k_asm) (by k_asm) (by k_is) (by boot_by_name) (by decide) ?_)))
    k_with "MineMemD" => ((repeat' (first | assumption | exact List.mem_cons_self | (refine List.mem_cons_of_mem _ ?_) | (refine List.mem_append.mpr (Or.inl ?_)) | fail "MineMemD")))
    k_with "call builtin:next" => (refine next_itemN (by k_asm) (by k_asm) off (.tail _ (.tail _ (.tail _ hl))) hva ?_; intro h₁ F₁ N₁)
    k_with "callWith ref" => (refine callWith_W (WrapAt.of (by k_asm) (by walk_at "MineMemD")) ?_)
    k_with "call ref" => (refine mw_data (by k_asm) (by walk_at "MineMemD") (by walk_at "MineMemD") D2 (fun p hp => .tail _ (.tail _ (.tail _ (.tail _ (s2 p hp))))) hD (fun p hp => .tail _ (.tail _ (.tail _ (.tail _ (s1 p hp))))) h2 (h1 _ (List.mem_of_getElem? he)) (by walk_at "MineUnits") ?_)
    k_with "WhlPost" => (refine whlPost_next ?_)
    refine whl_turn (k := 0) (by passes_own) ?_
    k_steps
    · rename_i h4 F4 N4 a4
      unfold Hid
      refine ih h4 ⟨some v, ?_⟩ (i' + 1) N4 (by omega) ?_ (by omega) _
      · refine (?_ : _ = nextM x q (some v)) ▸ F4
        funext y
        unfold nextM
        by_cases h1 : y = "item"
        · subst h1; rfl
        · rw [if_neg h1, if_neg h1, if_neg h1]
      · intro c e' hc hc2 hce
        by_cases h : c = i'
        · subst h
          rw [he] at hce
          cases hce
          unfold keptD
          rw [a4]
          rfl
        · exact hskip c e' hc (by omega) hce
    · rename_i h4 F4 N4 a4 kF kN Tc kX
      refine item i' v e h4 _ hi hv he (by unfold keptD; rw [a4]; rfl) hskip kF kN

theorem iter_own {w : World} {mean : ExcName → Option Value} {mg mb : Str → Option Value} {A A₀ : Around} {E : Value → Shared → Prop} {Q : Value → Shared → Prop} {s : Shared} {base h₀ : Heap} {outer : List Env} {cn : Str} {cs : Scope} {L a : Addr} {ccd : Value} {m : Str → Option Value} {news : List (Addr × Obj)} {x : Addr}
    (hA : A.frames = some (envOf cn cs L a ccd :: outer)) (hck : cs.kind = .function) (hroom : A.depth < recursionLimit)
    (B : Below A₀ base outer h₀) (F : Fr h₀ L s.heap m) (X : (hd.heap_39 w.params).In h₀) (T : Top hd.view_39 (looseW hd.view_39 [Str.ofString "filterfalse"]) mean mg mb h₀) (N : News h₀ L s.heap news)
    (h : ∀ h' tk, Fr h₀ L h' m → News h₀ L h' news → Q (.ref x) { s with heap := h', toks := tk }) :
    wpAny (model PySem.Challenge.rw_ij0164_01.row.prog w) A (call (.ref 128) [.ref x]) Q E s := by
  revert X
  k_fill
  w_top off
  intro X
  k_with_none
  k_with "MineMem" => (first | (with_reducible assumption) | (with_reducible exact List.mem_cons_self) | ((with_reducible refine List.mem_append.mpr (Or.inl ?_)); walk_at "MineMem") | ((with_reducible refine List.mem_append.mpr (Or.inr ?_)); walk_at "MineMem") | ((with_reducible refine List.mem_cons_of_mem _ ?_); walk_at "MineMem"))
  k_with "eval ListComp" => ((k_here; k_dflt (refine LCg.ListComp_U (F₀ := by k_asm) (by with_unfolding_all rfl) (by decide) (by rfl) (by decide) (by rfl) ?_)))
  k_with "MineItem" => (first | exact DatIn.none | exact DatIn.bool _ | exact DatIn.int _ _ | exact DatIn.str _ _ | assumption | (refine DatIn.mono ?_ (by assumption); (intro p hp; (try simp only [List.mem_append, List.mem_cons] at hp ⊢); grind)))
  k_with "MineLt" => (first | assumption | exact allLt_of (by assumption) | tbn_find | (simp only [AllLt, and_true]; tbn_conj))
  k_with "MineTup" => ((refine DatIn.tuple (List.mem_append.mpr (Or.inr (List.Mem.head _))) ?_; repeat' (first | exact DatAll.nil | refine DatAll.cons ?_ ?_ | walk_at "MineItem")))
  k_with "TurnEnd" => ((refine TurnEnd.intro [(_, _)] (by assumption) (tl1 (by assumption)) (off1 (by walk_at "MineLt")) (by walk_at "MineTup")))
  k_with "MineSub" => (first | exact fun _ h => h | assumption | (intro p hp; first | (exact List.Mem.tail _ (by assumption)) | (simp only [List.mem_append, List.mem_cons, List.not_mem_nil, or_false] at hp ⊢; grind)))
  k_with "subscriptTail" => ((k_here; (with_reducible show wpAny _ _ (subscriptTail _ _ (Value.ref _) (Value.int _ _)) _ _ _); k_dflt (refine' item_tupleT ?mwt ?mwa ?mwb ?mwc ?mwd ?_; (case mwt => exact News.isTup (by k_asm) (by walk_at "MineMem")); (case mwa => decide); (case mwb => decide); (case mwc => rfl); (case mwd => rfl); k_whole)))
  k_with "MineRoom" => (first | assumption | ktr_room | (dsimp only [ktrTop, Around.deeper, Around.in1] at *; simp only [recursionLimit] at *; omega))
  k_with "MineUnits" => (first | ktr_units | (have hcL9 := cLine_is; dsimp only [ktrTop, Around.deeper, Around.in1] at *; omega))
  k_with "And" => (((with_reducible show WrapAt _ _ ∧ _); k_dflt (refine ⟨WrapAt.of (by k_asm) (by walk_at "MineMemD"), ?_⟩); (try dsimp only [List.nil_append, List.cons_append])))
  k_with "eval Name" => ((k_here; (with_reducible show wpAny _ _ (eval (Expr.Name _ _) (compEnvC _ _ _ _)) _ _ _); k_dflt (first | refine LCgL.ld_own (by k_asm) (by walk_at "MineMem") (by assumption) (by assumption) ?_ | refine LCgL.ld_global (by k_asm) (by k_asm) (by k_asm) (by k_is) ?_ | refine LCgL.ld_built (by k_asm) (by k_asm) (by k_asm) (by k_is) (by boot_by_name) (by decide) ?_)))
  k_with "MineMemD" => ((repeat' (first | assumption | exact List.mem_cons_self | (refine List.mem_cons_of_mem _ ?_) | (refine List.mem_append.mpr (Or.inl ?_)) | fail "MineMemD")))
  refine wpAny_call ?_
  k_dflt (refine' code_def ?me1 ?me2 ?me3 ?me4 ?me5 ?meA ?meF ?meK ?me6 ?me7 ?me8 ?me9 ?meB ?_ ?mec2 ?mec3 ?mec4 ?mec5; (case meA => first | exact rfl | assumption); (case meF => exact rfl); (case meK => first | exact rfl | assumption); (case me1 => k_asm); (case me2 => k_asm); (case me3 => k_asm); (case me4 => k_asm); (case me5 => k_asm); (case me6 => k_is); (case me7 => k_is); (case me8 => walk_at "MineRoom"); (case me9 => first | exact BindsTo.of_eq rfl | exact binds_K (by k_in) rfl (by k_is) rfl rfl rfl); (case mec5 => decide); (case meB => exact locs rfl); (case mec2 => exact rfl); (case mec3 => exact rfl); (case mec4 => exact rfl); k_whole; intro _ _ _ _ _ _ _ _ _; (try dsimp only); (try k_fold))
  k_steps
  rename_i kF kN Tc kX
  exact h _ _ kF kN

theorem ff_next (w : World) : findIn (hd.heap_39 w.params) (.ref 139) "__next__" = some (some (.ref 135)) := by k_is
theorem ff_iter (w : World) : findIn (hd.heap_39 w.params) (.ref 139) "__iter__" = some (some (.ref 128)) := by k_is
theorem ff_len (w : World) : findIn (hd.heap_39 w.params) (.ref 139) "__len__" = some none := by k_is
theorem ff_hint (w : World) : findIn (hd.heap_39 w.params) (.ref 139) "__length_hint__" = some none := by k_is
theorem ff_fn_next (w : World) : isFn (hd.heap_39 w.params) (.ref 135) = true := by k_is
theorem ff_fn_iter (w : World) : isFn (hd.heap_39 w.params) (.ref 128) = true := by k_is
theorem spec_K {M : Model} {A : Around} {E : Value → Shared → Prop} {Q : Option Value → Shared → Prop} {s : Shared} {K : Frag} {h₀ : Heap} {L x C : Addr} {m : Str → Option Value} {ox : Obj} {od : Option Obj} {n : Str} {r : Option Value}
    (F : Fr h₀ L s.heap m) (X : K.In h₀) (I : InstAt s.heap x ox C od) (h : findIn K (.ref C) n = some r) (hQ : Q r s) : wpAny M A (specialOf (.ref x) n) Q E s := by
  unfold specialOf
  exact wpAny_bind (I.type.here ((looks_findIn (X.keeps F.keep) h).here hQ))
def keptUpTo (sk fs : List Dat) (i : Nat) : List Dat := (fs.take i).filter (keptD sk)
theorem keptUpTo_skip {sk fs : List Dat} {i : Nat} : ∀ (n : Nat), (∀ c e', i ≤ c → c < i + n → fs[c]? = some e' → keptD sk e' = false) → keptUpTo sk fs (i + n) = keptUpTo sk fs i := by
  intro n
  induction n with
  | zero => intro _; rfl
  | succ n ih =>
    intro h
    have q := ih fun c e' h1 h2 => h c e' h1 (by omega)
    unfold keptUpTo at q ⊢
    rw [show i + (n + 1) = (i + n) + 1 from rfl, List.take_add_one, List.filter_append, q]
    cases e : fs[i + n]? with
    | none => simp
    | some d => simp [h (i + n) d (by omega) (by omega) e]
theorem keptUpTo_item {sk fs : List Dat} {j : Nat} {e : Dat} (he : fs[j]? = some e) (hk : keptD sk e = true) : keptUpTo sk fs (j + 1) = keptUpTo sk fs j ++ [e] := by
  unfold keptUpTo
  rw [List.take_add_one, List.filter_append, he]
  simp [hk]
theorem keptUpTo_all {sk fs : List Dat} : keptUpTo sk fs fs.length = fs.filter (keptD sk) := by
  unfold keptUpTo
  rw [List.take_length]
theorem keptUpTo_le {sk fs : List Dat} {i : Nat} : (keptUpTo sk fs i).length ≤ fs.length := by
  unfold keptUpTo
  exact Nat.le_trans (List.length_filter_le _ _) (by rw [List.length_take]; omega)

section
variable {h₀ h h' : Heap} {L S : Addr} {m : Str → Option Value} {o o' : Obj} {pre rest : List (Addr × Obj)}
theorem newsIn_to (N : News h₀ L h (pre ++ (S, o) :: rest)) (o1 : ∀ p ∈ pre, p.1 ≠ S) (o2 : ∀ p ∈ rest, p.1 ≠ S) (hs : Heap.SameBut S h h') (ho : h'.get? S = some o') : News h₀ L h' (pre ++ (S, o') :: rest) := by
  intro p hp
  rcases List.mem_append.mp hp with hp | hp
  · exact ⟨(hs.2 p.1 (o1 p hp)).trans (N p (List.mem_append.mpr (.inl hp))).1, (N p (List.mem_append.mpr (.inl hp))).2⟩
  · rcases List.mem_cons.mp hp with rfl | hp
    · exact ⟨ho, (N (S, o) (List.mem_append.mpr (.inr (.head _)))).2⟩
    · exact ⟨(hs.2 p.1 (o2 p hp)).trans (N p (List.mem_append.mpr (.inr (.tail _ hp)))).1, (N p (List.mem_append.mpr (.inr (.tail _ hp)))).2⟩
theorem frIn_to (F : Fr h₀ L h m) (N : News h₀ L h (pre ++ (S, o) :: rest)) (hs : Heap.SameBut S h h') : Fr h₀ L h' m :=
  F.change hs (N (S, o) (List.mem_append.mpr (.inr (.head _)))).2.1 (N (S, o) (List.mem_append.mpr (.inr (.head _)))).2.2
end
def lstO (acc : List Value) (c : Nat) : Obj := { cls := .type "list", dict := none, data := .seq acc.toArray c, slots := #[] }

theorem extend_loop {w : World} {mean : ExcName → Option Value} {mg mb : Str → Option Value} {A A₀ : Around} {R : Result → Shared → Prop} {base h₀ : Heap} {outer : List Env} {cn : Str} {cs : Scope} {L a : Addr} {ccd : Value} {m : Str → Option Value} {rest n1 n2 : List (Addr × Obj)} {I x d q l k S : Addr} {vs us : List Value} {fs sk : List Dat} {nv nu : Nat} {res : Value}
    (hA : A.frames = some (envOf cn cs L a ccd :: outer)) (hh : A.handled = none) (hck : cs.kind = .function) (hroom : A.depth < recursionLimit) (hu : A.units + 100 < cLine)
    (B : Below A₀ base outer h₀) (X : (hd.heap_39 w.params).In h₀) (T : Top hd.view_39 (looseW hd.view_39 [Str.ofString "filterfalse"]) mean mg mb h₀)
    (off : ∀ p ∈ (x, ffObj d q I) :: (d, dictOf [] 0) :: (q, mwObj "list.__contains__" (.ref k)) :: rest, p.1 ≠ I) (offS : ∀ p ∈ (x, ffObj d q I) :: (d, dictOf [] 0) :: (q, mwObj "list.__contains__" (.ref k)) :: rest, p.1 ≠ S) (hIS : I ≠ S) (hl : (l, W.listOf vs.toArray nv) ∈ rest) (hk : (k, W.listOf us.toArray nu) ∈ rest)
    (D1 : DatAll n1 vs fs) (D2 : DatAll n2 us sk) (s1 : ∀ p ∈ n1, p ∈ rest) (s2 : ∀ p ∈ n2, p ∈ rest) (h1 : ∀ d ∈ fs, okD 8 d = true) (h2 : ∀ d ∈ sk, okD 8 d = true) (hsz : fs.length ≤ 1000) :
    ∀ (n i : Nat) (s : Shared) (acc : List Value) (c : Nat), fs.length - i = n → i ≤ fs.length → DatAll n1 acc (keptUpTo sk fs i) → Fr h₀ L s.heap m →
    News h₀ L s.heap ((I, itO l i) :: (x, ffObj d q I) :: (d, dictOf [] 0) :: (q, mwObj "list.__contains__" (.ref k)) :: (S, lstO acc c) :: rest) →
    (∀ g' h' acc' c' tk, KtsTurn (outer.filterMap (·.frame)) h₀ g' → Fr g' L h' m → Below A₀ base outer g' → News g' L h' ((S, lstO acc' c') :: rest) → DatAll n1 acc' (fs.filter (keptD sk)) → R (.ok (.ret res)) { s with heap := h', toks := tk }) →
    codeAny (model PySem.Challenge.rw_ij0164_01.row.prog w) A (.builtin "list.extend.loop" ⟨[.ref S, .ref x, res], []⟩) R s := by
  intro n
  induction n using Nat.strongRecOn with
  | ind n ih =>
    intro i s acc c hn hi D F N hR
    refine codeAny_builtin PySem.F.entry_extend_loop ?_
    rw [Around.under_plainId PySem.F.plain_extend_loop _]
    show wpAny _ A.in1 (pyNext (.ref x) >>= _) _ _ s
    refine wpAny_bind ?_
    have Ii := InstAt.of_news (C := 139) N (.tail _ (.head _)) (.tail _ (.tail _ (.head _)))
    refine owit_next F X Ii (ff_next w) (ff_fn_next w) ?_
    have offI : ∀ p ∈ (x, ffObj d q I) :: (d, dictOf [] 0) :: (q, mwObj "list.__contains__" (.ref k)) :: (S, lstO acc c) :: rest, p.1 ≠ I := by
      intro p hp
      rcases List.mem_cons.mp hp with rfl | hp
      · exact off _ (.head _)
      rcases List.mem_cons.mp hp with rfl | hp
      · exact off _ (.tail _ (.head _))
      rcases List.mem_cons.mp hp with rfl | hp
      · exact off _ (.tail _ (.tail _ (.head _)))
      rcases List.mem_cons.mp hp with rfl | hp
      · exact fun e => hIS e.symm
      · exact off _ (.tail _ (.tail _ (.tail _ hp)))
    refine next_tel (i := i) (A := A.in1) (A₀ := A₀) (rest := (S, lstO acc c) :: rest) hA hh hck hroom (by show A.units + 1 + 80 < cLine; omega) B F X T offI (.tail _ hl) (.tail _ hk) D1 D2 (fun p hp => .tail _ (s1 p hp)) (fun p hp => .tail _ (s2 p hp)) h1 h2 N ?_ ?_
    · intro j v e h' tk hij hv he hke hsk F' N'
      have hj := (List.getElem?_eq_some_iff.mp he).1
      have hDj : DatAll n1 acc (keptUpTo sk fs j) := by
        have q := keptUpTo_skip (sk := sk) (fs := fs) (i := i) (j - i) fun c e' a b => hsk c e' a (by omega)
        rw [show i + (j - i) = j by omega] at q
        rw [q]; exact D
      have hlen : acc.length ≤ 1000 := by
        rw [D.length]
        exact Nat.le_trans keptUpTo_le hsz
      have hS : h'.get? S = some (lstO acc c) := N'.get (.tail _ (.tail _ (.tail _ (.tail _ (.head _)))))
      have hup := Heap.get?_update_self (Obj.mapSeq (·.push v)) hS rfl
      show wpAny _ A.in1 (updateSeq S (·.push v) >>= _) _ _ _
      refine wpAny_bind ?_
      refine wpAny_updateSeq hS rfl (wpAny_pure ⟨plainId_quiet PySem.F.plain_extend_loop _, ?_⟩)
        (by rw [List.size_toArray, sizeLine_eq]; omega) (by rw [Array.size_push, List.size_toArray, sizeLine_eq]; omega)
      have hD' : DatAll n1 (acc ++ [v]) (keptUpTo sk fs (j + 1)) := by
        have D1' : DatAll n1 vs (fs.map id) := by simpa using D1
        obtain ⟨e2, he2, hd2⟩ := datAll_get D1' hv
        rw [he] at he2
        cases he2
        rw [keptUpTo_item he hke]
        exact DatAll.append hDj (.one hd2)
      have hsb : Heap.SameBut S h' (h'.update S (Obj.mapSeq (·.push v))) := Heap.SameBut.update ..
      have oS : ∀ p ∈ (I, itO l (j + 1)) :: (x, ffObj d q I) :: (d, dictOf [] 0) :: (q, mwObj "list.__contains__" (.ref k)) :: [], p.1 ≠ S := by
        intro p hp
        rcases List.mem_cons.mp hp with rfl | hp
        · exact hIS
        · refine offS p ?_
          rcases List.mem_cons.mp hp with rfl | hp
          · exact .head _
          rcases List.mem_cons.mp hp with rfl | hp
          · exact .tail _ (.head _)
          rcases List.mem_cons.mp hp with rfl | hp
          · exact .tail _ (.tail _ (.head _))
          cases hp
      have oR : ∀ p ∈ rest, p.1 ≠ S := fun p hp => offS p (.tail _ (.tail _ (.tail _ hp)))
      have F'' := frIn_to (pre := (I, itO l (j + 1)) :: (x, ffObj d q I) :: (d, dictOf [] 0) :: (q, mwObj "list.__contains__" (.ref k)) :: []) F' N' hsb
      obtain ⟨c'', hc''⟩ : ∃ c'', Obj.mapSeq (·.push v) (lstO acc c) = lstO (acc ++ [v]) c'' := ⟨_, by simp only [lstO, Obj.mapSeq, List.push_toArray]; rfl⟩
      rw [hc''] at hup
      have N'' := newsIn_to (pre := (I, itO l (j + 1)) :: (x, ffObj d q I) :: (d, dictOf [] 0) :: (q, mwObj "list.__contains__" (.ref k)) :: []) N' oS oR hsb hup
      refine ih (fs.length - (j + 1)) (by omega) (j + 1) _ (acc ++ [v]) c'' rfl (by omega) hD' F'' N'' ?_
      intro g' h5 acc' c' tk' T5 F5 B5 N5 D5
      exact hR g' h5 acc' c' tk' T5 F5 B5 N5 D5
    · intro g' h' e tk hsk T' F' B' N' hob
      obtain ⟨ob, hob, hoc⟩ := hob
      unfold OwitStop
      refine wpAny_isInstance (T := "StopIteration") (b := true) ⟨ob, hob, hoc⟩ (by first | rfl | kernel_rfl) ?_
      rw [if_pos rfl]
      refine wpAny_pure ?_
      have hDj : DatAll n1 acc (fs.filter (keptD sk)) := by
        have q := keptUpTo_skip (sk := sk) (fs := fs) (i := i) (fs.length - i) fun c e' a b => hsk c e' a
        rw [show i + (fs.length - i) = fs.length by omega, keptUpTo_all] at q
        rw [q]; exact D
      exact hR g' h' acc c tk T' F' B' N' hDj

theorem list_own {w : World} {mean : ExcName → Option Value} {mg mb : Str → Option Value} {A A₀ : Around} {E : Value → Shared → Prop} {Q : Value → Shared → Prop} {s : Shared} {base h₀ : Heap} {outer : List Env} {cn : Str} {cs : Scope} {L a : Addr} {ccd : Value} {m : Str → Option Value} {rest n1 n2 : List (Addr × Obj)} {I x d q l k : Addr} {vs us : List Value} {fs sk : List Dat} {nv nu : Nat}
    (hA : A.frames = some (envOf cn cs L a ccd :: outer)) (hh : A.handled = none) (hck : cs.kind = .function) (hroom : A.depth < recursionLimit) (hu : A.units + 110 < cLine)
    (B : Below A₀ base outer h₀) (X : (hd.heap_39 w.params).In h₀) (T : Top hd.view_39 (looseW hd.view_39 [Str.ofString "filterfalse"]) mean mg mb h₀) (F : Fr h₀ L s.heap m)
    (off : ∀ p ∈ (x, ffObj d q I) :: (d, dictOf [] 0) :: (q, mwObj "list.__contains__" (.ref k)) :: rest, p.1 ≠ I) (hl : (l, W.listOf vs.toArray nv) ∈ rest) (hk : (k, W.listOf us.toArray nu) ∈ rest)
    (D1 : DatAll n1 vs fs) (D2 : DatAll n2 us sk) (s1 : ∀ p ∈ n1, p ∈ rest) (s2 : ∀ p ∈ n2, p ∈ rest) (h1 : ∀ d ∈ fs, okD 8 d = true) (h2 : ∀ d ∈ sk, okD 8 d = true) (hsz : fs.length ≤ 1000)
    (N : News h₀ L s.heap ((I, itO l 0) :: (x, ffObj d q I) :: (d, dictOf [] 0) :: (q, mwObj "list.__contains__" (.ref k)) :: rest))
    (hQ : ∀ S g' h' acc' c' tk, KtsTurn (outer.filterMap (·.frame)) h₀ g' → Fr g' L h' m → Below A₀ base outer g' → News g' L h' ((S, lstO acc' c') :: rest) → (∀ p ∈ rest, p.1 ≠ S) → DatAll n1 acc' (fs.filter (keptD sk)) → Q (.ref S) { s with heap := h', toks := tk }) :
    wpAny (model PySem.Challenge.rw_ij0164_01.row.prog w) A (call (.type "list") [.ref x]) Q E s := by
  refine callType_codes (Q₁ := fun obj s₁ => obj = .ref s.heap.objs.size ∧ s₁ = { s with heap := s.heap.push { cls := .type "list", data := .seq #[] } }) PySem.F.called_list (PySem.F.typeCall_list_1 _) PySem.F.entry_list_init
    (code_list_new _ ⟨rfl, rfl⟩) fun obj s₁ h₁ => ?_
  obtain ⟨rfl, rfl⟩ := h₁
  have hS : (s.heap.push { cls := .type "list", data := .seq #[] }).get? s.heap.objs.size = some { cls := .type "list", data := .seq #[] } := Heap.get?_push_size _ rfl
  refine ⟨⟨_, hS, rfl⟩, PySem.F.args_list_init_2 _ _, ?_⟩
  show wpAny _ A.in1.in1 (do let old ← Builtin.List.listItems (.ref _); Builtin.List.listUpdate (.ref _) (fun _ => #[]); letGo old.toList.reverse; Builtin.List.listExtendWith (.ref _) (.ref x) .none) _ _ _
  have oA : ∀ p ∈ (I, itO l 0) :: (x, ffObj d q I) :: (d, dictOf [] 0) :: (q, mwObj "list.__contains__" (.ref k)) :: rest, p.1 ≠ s.heap.objs.size := fun p hp => Nat.ne_of_lt (Heap.lt_size (N p hp).1)
  have F₁ : Fr h₀ L (s.heap.push { cls := .type "list", data := .seq #[] }) m := F.push _
  have N₁ := News.push F N ({ cls := .type "list", data := .seq #[] } : Obj) rfl
  generalize hSz : s.heap.objs.size = S at *
  refine wpAny_bind ?_
  unfold Builtin.List.listItems
  refine wpAny_bind (wpAny_seqItems hS rfl (wpAny_pure ?_))
  show wpAny _ A.in1.in1 (updateSeq S (fun _ => #[]) >>= fun _ => letGo (#[] : Array Value).toList.reverse >>= fun _ => Builtin.List.listExtendWith (.ref S) (.ref x) .none) _ _ _
  refine wpAny_bind (wpAny_updateSeq hS rfl ?_)
  have hS₂ := Heap.get?_update_self (Obj.mapSeq (fun _ => (#[] : Array Value))) hS rfl
  have b₂ : Heap.SameBut S (s.heap.push { cls := .type "list", data := .seq #[] }) ((s.heap.push { cls := .type "list", data := .seq #[] }).update S (Obj.mapSeq (fun _ => (#[] : Array Value)))) := Heap.SameBut.update ..
  have F₂ := frIn_to (pre := []) F₁ N₁ b₂
  have N₂ := newsIn_to (pre := []) N₁ (fun _ h => nomatch h) oA b₂ hS₂
  clear F₁ N₁ b₂
  refine wpAny_bind (wpAny_letGo ?_)
  generalize hh2 : (s.heap.push { cls := .type "list", data := .seq #[] }).update S (Obj.mapSeq (fun _ => (#[] : Array Value))) = h2' at *
  unfold Builtin.List.listExtendWith
  have hSx : S ≠ x := fun e => oA (x, _) (.tail _ (.head _)) e.symm
  have Ii := InstAt.of_news (C := 139) N₂ (.tail _ (.tail _ (.head _))) (.tail _ (.tail _ (.tail _ (.head _))))
  refine wpAny_bind (Ii.type.here ?_)
  have e1 : Builtin.List.listSameRef (.ref S) (.ref x) = false := by simp [Builtin.List.listSameRef, hSx]
  have e2 : (Value.ref 139 == Value.type "list") = false := by decide
  have e3 : (Value.ref 139 == Value.type "tuple") = false := by decide
  simp only [e1, e2, e3, Bool.or_false, Bool.false_eq_true, if_false]
  refine wpAny_bind (owit_iter F₂ X Ii (ff_iter w) (ff_fn_iter w) ?_)
  refine iter_own (A := A.in1.in1) hA hck hroom B F₂ X T N₂ fun h3 tk3 F₃ N₃ => ?_
  have Ii₃ := InstAt.of_news (C := 139) N₃ (.tail _ (.tail _ (.head _))) (.tail _ (.tail _ (.tail _ (.head _))))
  refine owit_it F₃ X Ii₃ (ff_next w) ?_
  refine wpAny_bind (wpAny_holding ?_)
  unfold Builtin.List.listLengthHint
  refine wpAny_bind (spec_K F₃ X Ii₃ (ff_len w) ?_)
  show wpAny _ A.in1.in1 (specialOf (Value.ref x) (Str.ofString "__length_hint__") >>= _) _ _ _
  refine wpAny_bind (spec_K F₃ X Ii₃ (ff_hint w) ?_)
  refine wpAny_pure ?_
  show wpAny _ A.in1.in1 (rule "list.extend.makes-room" >>= fun _ => Builtin.List.listTouch (.ref S) >>= fun _ =>
    again (.builtin "list.extend.loop" ⟨[.ref S, .ref x, .none], []⟩)) _ _ _
  refine wpAny_bind (wpAny_rule ?_)
  refine wpAny_bind ?_
  show wpAny _ A.in1.in1 (updateSeq S (·.push .none) >>= fun _ => updateSeq S (·.pop)) _ _ _
  have hS₃ := N₃.get (.head _)
  refine wpAny_bind (wpAny_updateSeq hS₃ rfl ?_)
  have hS₄ := Heap.get?_update_self (Obj.mapSeq (·.push Value.none)) hS₃ rfl
  have b₄ : Heap.SameBut S h3 (h3.update S (Obj.mapSeq (·.push Value.none))) := Heap.SameBut.update ..
  have F₄ := frIn_to (pre := []) F₃ N₃ b₄
  have N₄ := newsIn_to (pre := []) N₃ (fun _ h => nomatch h) oA b₄ hS₄
  refine wpAny_updateSeq (hz := by seq_fits) hS₄ rfl ?_
  have hS₅ := Heap.get?_update_self (Obj.mapSeq (·.pop)) hS₄ rfl
  have b₅ : Heap.SameBut S (h3.update S (Obj.mapSeq (·.push Value.none))) ((h3.update S (Obj.mapSeq (·.push Value.none))).update S (Obj.mapSeq (·.pop))) := Heap.SameBut.update ..
  have F₅ := frIn_to (pre := []) F₄ N₄ b₅
  have N₅ := newsIn_to (pre := []) N₄ (fun _ h => nomatch h) oA b₅ hS₅
  refine wpAny_pure ⟨plainId_quiet PySem.F.plain_extend_loop _, ?_⟩
  have hc : ∃ c, Obj.mapSeq (·.pop) (Obj.mapSeq (·.push Value.none) (Obj.mapSeq (fun _ => (#[] : Array Value)) { cls := .type "list", data := .seq #[] })) = lstO [] c := ⟨_, rfl⟩
  obtain ⟨c, hc⟩ := hc
  rw [hc] at N₅
  refine extend_loop (A := A.in1) (A₀ := A₀) (S := S) hA hh hck hroom (by show A.units + 1 + 100 < cLine; omega) B X T off (fun p hp => oA p (.tail _ hp)) (oA _ (.head _)) hl hk D1 D2 s1 s2 h1 h2 hsz (fs.length - 0) 0 _ [] c rfl (Nat.zero_le _) ?_ F₅ (newsIn N₅ ?_) ?_
  · unfold keptUpTo
    simp only [List.take_zero, List.filter_nil]
    exact .nil
  · intro p hp
    simp only [List.mem_cons, List.nil_append] at hp ⊢
    grind
  · intro g' h' acc' c' tk T' F' B' N' D'
    exact ⟨rfl, hQ S g' h' acc' c' tk T' F' B' N' (fun p hp => oA p (.tail _ (.tail _ (.tail _ (.tail _ hp))))) D'⟩

theorem filter_tel {w : World} {mean : ExcName → Option Value} {mg mb : Str → Option Value} (fs sk : List Dat) (hf : ∀ d ∈ fs, okD 8 d = true) (hk' : ∀ d ∈ sk, okD 8 d = true) (hsz : fs.length ≤ 1000) : Tel0 PySem.Challenge.rw_ij0164_01.row.prog w (hd.heap_39 w.params) hd.view_39 (looseW hd.view_39 [Str.ofString "filterfalse"]) mean mg mb 150 80 (fun L vs => DatAll L vs [.list fs, .list sk]) (fun L r => DatIn L r (.list (fs.filter (keptD sk)))) := by
  k_fill
  w_top off
  unfold Tel0
  intro dp un gd cn cs a ccd cl A₀ base h₀ L m news sub s vs Q E B F X N T hk hs hR hd hu hret
  obtain ⟨_, _, rfl, h1, h2⟩ := inv2 hR
  obtain ⟨_, _, _, rfl, hm1, hD1⟩ := invL h1
  obtain ⟨_, _, _, rfl, hm2, hD2⟩ := invL h2
  have hm1' := hs _ hm1
  have hm2' := hs _ hm2
  k_with_none
  k_with "MineMem" => (first | (with_reducible assumption) | (with_reducible exact List.mem_cons_self) | ((with_reducible refine List.mem_append.mpr (Or.inl ?_)); walk_at "MineMem") | ((with_reducible refine List.mem_append.mpr (Or.inr ?_)); walk_at "MineMem") | ((with_reducible refine List.mem_cons_of_mem _ ?_); walk_at "MineMem"))
  k_with "eval ListComp" => ((k_here; k_dflt (refine LCg.ListComp_U (F₀ := by k_asm) (by with_unfolding_all rfl) (by decide) (by rfl) (by decide) (by rfl) ?_)))
  k_with "MineItem" => (first | exact DatIn.none | exact DatIn.bool _ | exact DatIn.int _ _ | exact DatIn.str _ _ | assumption | (refine DatIn.mono ?_ (by assumption); (intro p hp; (try simp only [List.mem_append, List.mem_cons] at hp ⊢); grind)))
  k_with "MineLt" => (first | assumption | exact allLt_of (by assumption) | tbn_find | (simp only [AllLt, and_true]; tbn_conj))
  k_with "MineTup" => ((refine DatIn.tuple (List.mem_append.mpr (Or.inr (List.Mem.head _))) ?_; repeat' (first | exact DatAll.nil | refine DatAll.cons ?_ ?_ | walk_at "MineItem")))
  k_with "TurnEnd" => ((refine TurnEnd.intro [(_, _)] (by assumption) (tl1 (by assumption)) (off1 (by walk_at "MineLt")) (by walk_at "MineTup")))
  k_with "MineSub" => (first | exact fun _ h => h | assumption | (intro p hp; first | (exact List.Mem.tail _ (by assumption)) | (simp only [List.mem_append, List.mem_cons, List.not_mem_nil, or_false] at hp ⊢; grind)))
  k_with "subscriptTail" => ((k_here; (with_reducible show wpAny _ _ (subscriptTail _ _ (Value.ref _) (Value.int _ _)) _ _ _); k_dflt (refine' item_tupleT ?mwt ?mwa ?mwb ?mwc ?mwd ?_; (case mwt => exact News.isTup (by k_asm) (by walk_at "MineMem")); (case mwa => decide); (case mwb => decide); (case mwc => rfl); (case mwd => rfl); k_whole)))
  k_with "MineRoom" => (first | assumption | ktr_room | (dsimp only [ktrTop, Around.deeper, Around.in1] at *; simp only [recursionLimit] at *; omega))
  k_with "MineUnits" => (first | ktr_units | (have hcL9 := cLine_is; dsimp only [ktrTop, Around.deeper, Around.in1] at *; omega))
  k_with "And" => (((with_reducible show WrapAt _ _ ∧ _); k_dflt (refine ⟨WrapAt.of (by k_asm) (by walk_at "MineMemD"), ?_⟩); (try dsimp only [List.nil_append, List.cons_append])))
  k_with "eval Name" => ((k_here; (with_reducible show wpAny _ _ (eval (Expr.Name _ _) (compEnvC _ _ _ _)) _ _ _); k_dflt (first | refine LCgL.ld_own (by k_asm) (by walk_at "MineMem") (by assumption) (by assumption) ?_ | refine LCgL.ld_global (by k_asm) (by k_asm) (by k_asm) (by k_is) ?_ | refine LCgL.ld_built (by k_asm) (by k_asm) (by k_asm) (by k_is) (by boot_by_name) (by decide) ?_)))
  k_with "MineMemD" => ((repeat' (first | assumption | exact List.mem_cons_self | (refine List.mem_cons_of_mem _ ?_) | (refine List.mem_append.mpr (Or.inl ?_)) | fail "MineMemD")))
  k_with "getAttr ref" => (refine ga_containsN (by k_asm) (by k_asm) (by walk_at "MineMem") ?_; intro q' h' tk' F' N' l1; (try k_lt l1))
  k_with "call builtin:iter" => (refine iter_list (by k_asm) (by k_asm) (by walk_at "MineMem") ?_; intro q' h' F' N' l1; (try k_lt l1))
  k_with "call ref" => k_dflt (refine' call_cls ?mh1 ?mh2 ?mh3 ?mh4 ?mh5 ?mh6 ?_; (case mh1 => k_asm); (case mh2 => k_asm); (case mh3 => k_asm); (case mh4 => k_is); (case mh5 => k_is); (case mh6 => k_is); k_whole; intro _ _ _ _ _ l7 l8; (have l9 := allLt_of (fun p hp => Nat.lt_trans (l7 p hp) l8)); (try simp only [AllLt, and_true] at l9); (try k_lt l7); (try k_lt2 l8); (try k_sweep); (refine' code_def ?me1 ?me2 ?me3 ?me4 ?me5 ?meA ?meF ?meK ?me6 ?me7 ?me8 ?me9 ?meB ?_ ?mec2 ?mec3 ?mec4 ?mec5; (case meA => first | exact rfl | assumption); (case meF => exact rfl); (case meK => first | exact rfl | assumption); (case me1 => k_asm); (case me2 => k_asm); (case me3 => k_asm); (case me4 => k_asm); (case me5 => k_asm); (case me6 => k_is); (case me7 => k_is); (case me8 => walk_at "MineRoom"); (case me9 => first | exact BindsTo.of_eq rfl | exact binds_K (by k_in) rfl (by k_is) rfl rfl rfl); (case mec5 => decide); (case meB => exact locs rfl); (case mec2 => exact rfl); (case mec3 => exact rfl); (case mec4 => exact rfl); k_whole; intro _ _ _ _ _ _ _ _ _; (try dsimp only); (try k_fold)))
  refine wpAny_call ?_
  k_dflt (refine' code_defSx ?ms1 ?ms2 ?ms3 ?ms4 ?ms5 ?msA ?msF ?msK ?ms6 ?ms7 ?ms8 ?ms9 ?msB ?_ ?msc2 ?msc3 ?msc4 ?msc5; (case msA => first | exact rfl | assumption); (case msF => exact rfl); (case msK => first | exact rfl | assumption); (case ms1 => k_asm); (case ms2 => k_asm); (case ms3 => k_asm); (case ms4 => k_asm); (case ms5 => k_asm); (case ms6 => k_is); (case ms7 => k_is); (case ms8 => walk_at "MineRoom"); (case ms9 => first | exact BindsTo.of_eq rfl | exact binds_K (by k_in) rfl (by k_is) rfl rfl rfl); (case msc5 => decide); (case msB => exact locs rfl); (case msc2 => exact rfl); (case msc3 => exact rfl); (case msc4 => exact rfl); k_whole; intro _ _ _ _ _ _ _ _ _; (try dsimp only); (try k_fold))
  k_steps
  rename_i kF kN Tc kX
  refine' list_own (A₀ := ktrTop dp un gd cn cs L a ccd cl []) (outer := [envX cn cs L a ccd cl]) (fs := fs) (sk := sk) rfl rfl rfl ?room ?units ?B kX Tc kF ?off ?hl ?hk ?D1 ?D2 ?s1 ?s2 ?ok1 ?ok2 hsz kN ?_
  case B => k_asm
  case hl => walk_at "MineMem"
  case hk => walk_at "MineMem"
  case D1 => exact hD1
  case D2 => exact hD2
  case room => walk_at "MineRoom"
  case units => walk_at "MineUnits"
  case ok1 => exact hf
  case ok2 => exact hk'
  case s1 => exact fun p hp => hs p hp
  case s2 => exact fun p hp => hs p hp
  · intro p hp
    obtain ⟨a1, a2, a3, a4⟩ := l1
    rcases List.mem_cons.mp hp with rfl | hp
    · exact Nat.ne_of_lt a1
    rcases List.mem_cons.mp hp with rfl | hp
    · exact Nat.ne_of_lt a2
    rcases List.mem_cons.mp hp with rfl | hp
    · exact Nat.ne_of_lt a3
    · exact Nat.ne_of_lt (ktn_ltOf a4 p hp)
  · intro S g' h' acc' c' tk' T' F' B' N' o' D'
    refine leaveS0_ F' N' T' (fun rF rN => ?_)
    refine hret (.ref S) [(S, lstO acc' c')] h' tk' rF (tl1 rN) ?_ (DatIn.list (List.mem_append.mpr (.inr (.head _))) (DatAll.mono (fun p hp => List.mem_append.mpr (.inl hp)) D'))
    intro q hq p hp
    rw [List.mem_singleton.mp hp]
    exact fun e => o' q hq e.symm

def isB : Dat → Bool
  | .bool _ => true
  | _ => false
def typD (d : Dat) : Dat := .tuple [d, .bool (isB d)]
theorem typed_tel {w : World} {mean : ExcName → Option Value} {mg mb : Str → Option Value} (ds : List Dat) (hf : ∀ d ∈ ds, flat d = true) (hlen : ds.length ≤ 64) :
    Tel PySem.Challenge.rw_ij0164_01.row.prog w (hd.heap_39 w.params) hd.view_39 (looseW hd.view_39 [Str.ofString "filterfalse"]) mean mg mb 190 10 (fun L vs => DatAll L vs [.list ds]) (fun L r => DatIn L r (.list (ds.map typD))) := by
  k_fill
  w_top off
  unfold Tel
  intro dp un gd cn cs a ccd cl outer A₀ base h₀ L m news sub s vs Q E B F X N T hk hs hR hd hu hret
  obtain ⟨_, rfl, h1⟩ := inv1 hR
  obtain ⟨_, _, _, rfl, hm, hD⟩ := invL h1
  have hm' := hs _ hm
  k_with_none
  k_with "MineMem" => (first | (with_reducible assumption) | (with_reducible exact List.mem_cons_self) | ((with_reducible refine List.mem_append.mpr (Or.inl ?_)); walk_at "MineMem") | ((with_reducible refine List.mem_append.mpr (Or.inr ?_)); walk_at "MineMem") | ((with_reducible refine List.mem_cons_of_mem _ ?_); walk_at "MineMem"))
  k_with "eval ListComp" => ((k_here; k_dflt (refine LCg.ListComp_U (F₀ := by k_asm) (by with_unfolding_all rfl) (by decide) (by rfl) (by decide) (by rfl) ?_)))
  k_with "MineItem" => (first | exact DatIn.none | exact DatIn.bool _ | exact DatIn.int _ _ | exact DatIn.str _ _ | assumption | (refine DatIn.mono ?_ (by assumption); (intro p hp; (try simp only [List.mem_append, List.mem_cons] at hp ⊢); grind)))
  k_with "MineLt" => (first | assumption | exact allLt_of (by assumption) | tbn_find | (simp only [AllLt, and_true]; tbn_conj))
  k_with "MineTup" => ((refine DatIn.tuple (List.mem_append.mpr (Or.inr (List.Mem.head _))) ?_; repeat' (first | exact DatAll.nil | refine DatAll.cons ?_ ?_ | walk_at "MineItem")))
  k_with "TurnEnd" => ((refine TurnEnd.intro [(_, _)] (by assumption) (tl1 (by assumption)) (off1 (by walk_at "MineLt")) (by walk_at "MineTup")))
  k_with "MineSub" => (first | exact fun _ h => h | assumption | (intro p hp; first | (exact List.Mem.tail _ (by assumption)) | (simp only [List.mem_append, List.mem_cons, List.not_mem_nil, or_false] at hp ⊢; grind)))
  k_with "subscriptTail" => ((k_here; (with_reducible show wpAny _ _ (subscriptTail _ _ (Value.ref _) (Value.int _ _)) _ _ _); k_dflt (refine' item_tupleT ?mwt ?mwa ?mwb ?mwc ?mwd ?_; (case mwt => exact News.isTup (by k_asm) (by walk_at "MineMem")); (case mwa => decide); (case mwb => decide); (case mwc => rfl); (case mwd => rfl); k_whole)))
  k_with "MineRoom" => (first | assumption | ktr_room | (dsimp only [ktrTop, Around.deeper, Around.in1] at *; simp only [recursionLimit] at *; omega))
  k_with "MineUnits" => (first | ktr_units | (have hcL9 := cLine_is; dsimp only [ktrTop, Around.deeper, Around.in1] at *; omega))
  k_with "And" => (((with_reducible show WrapAt _ _ ∧ _); k_dflt (refine ⟨WrapAt.of (by k_asm) (by walk_at "MineMemD"), ?_⟩); (try dsimp only [List.nil_append, List.cons_append])))
  k_with "eval Name" => ((k_here; (with_reducible show wpAny _ _ (eval (Expr.Name _ _) (compEnvC _ _ _ _)) _ _ _); k_dflt (first | refine LCgL.ld_own (by k_asm) (by walk_at "MineMem") (by assumption) (by assumption) ?_ | refine LCgL.ld_global (by k_asm) (by k_asm) (by k_asm) (by k_is) ?_ | refine LCgL.ld_built (by k_asm) (by k_asm) (by k_asm) (by k_is) (by boot_by_name) (by decide) ?_)))
  k_with "MineMemD" => ((repeat' (first | assumption | exact List.mem_cons_self | (refine List.mem_cons_of_mem _ ?_) | (refine List.mem_append.mpr (Or.inl ?_)) | fail "MineMemD")))
  k_with "CompSrc" => (
    refine src_U (sub := sub) (enc := fun d => d) (dec := typD) (ds := ds) (by rfl) (by k_asm) (by k_asm) (by assumption) (by assumption) (by simpa using hD) (by omega) ?turn ?fin
    case' turn =>
      intro v d I oI C oC D m₂ ys tl h tk E' hd' hv hC hx F' N'
      have hfd := hf d hd'
      cases hv <;> first | (exfalso; exact Bool.false_ne_true hfd) | skip)
  refine wpAny_call ?_
  k_dflt ktr_enter
  k_steps
  refine' hret _ _ _ _ (by assumption) (newsIn (by assumption) in1) (offIn (by assumption) (off1_lt (by assumption))) ?_
  exact DatIn.list (List.mem_append.mpr (Or.inr (List.Mem.head _))) (DatAll.mono in2 (by assumption))

abbrev Code3 := Int × Int × Int
def codeD (c : Code3) : Dat := .tuple [.int c.1, .int c.2.1, .int c.2.2]
inductive Form where
  | no | s | r | a
deriving DecidableEq
def Form.dat : Form → Dat
  | .no => .none | .s => .str (Str.ofString "s") | .r => .str (Str.ofString "r") | .a => .str (Str.ofString "a")
def drawnS (x : Int) : Code3 :=
  if Int.fmod x 10 = 9 then (Int.fmod x 10, Int.fmod (Int.fdiv x 10) 2, Int.fmod (Int.fdiv x 20) 2) else (Int.fmod x 10, Int.fmod (Int.fdiv x 10) 2 + Int.fmod (Int.fdiv x 20) 2, 0)
def afterS (c : Code3) : Form → Code3
  | .no => c
  | .s => if c.1 > 5 ∨ c.2.1 > 0 then c else (if c.1 = 9 ∧ c.2.2 > 0 then (c.1, c.2.1, c.2.2 + 1) else (c.1, c.2.1 + 1, 0))
  | .r => if c.1 = 9 ∧ c.2.2 > 0 then (c.1, c.2.1, c.2.2 + 1) else (c.1, c.2.1 + 1, 0)
  | .a => if c.1 = 9 then (c.1, c.2.1, c.2.2 + 1) else (c.1, c.2.1 + 1, 0)
def numS (c : Code3) : Code3 := if c = (4, 0, 0) ∨ c = (5, 0, 0) then (c.1 - 4, 0, 0) else c
theorem drawn_tel {w : World} {mean : ExcName → Option Value} {mg mb : Str → Option Value} (x : Int) : Tel PySem.Challenge.rw_ij0164_01.row.prog w (hd.heap_39 w.params) hd.view_39 (looseW hd.view_39 [Str.ofString "filterfalse"]) mean mg mb 157 10 (fun L vs => DatAll L vs [.int x]) (fun L r => DatIn L r (codeD (drawnS x))) := by
  k_fill
  w_top off
  unfold Tel
  intro dp un gd cn cs a ccd cl outer A₀ base h₀ L m news sub s vs Q E B F X N T hk hs hR hd hu hret
  obtain ⟨_, rfl, h1⟩ := inv1 hR
  obtain ⟨_, rfl⟩ := invI h1
  k_with_none
  k_with "MineMem" => (first | (with_reducible assumption) | (with_reducible exact List.mem_cons_self) | ((with_reducible refine List.mem_append.mpr (Or.inl ?_)); walk_at "MineMem") | ((with_reducible refine List.mem_append.mpr (Or.inr ?_)); walk_at "MineMem") | ((with_reducible refine List.mem_cons_of_mem _ ?_); walk_at "MineMem"))
  k_with "eval ListComp" => ((k_here; k_dflt (refine LCg.ListComp_U (F₀ := by k_asm) (by with_unfolding_all rfl) (by decide) (by rfl) (by decide) (by rfl) ?_)))
  k_with "MineItem" => (first | exact DatIn.none | exact DatIn.bool _ | exact DatIn.int _ _ | exact DatIn.str _ _ | assumption | (refine DatIn.mono ?_ (by assumption); (intro p hp; (try simp only [List.mem_append, List.mem_cons] at hp ⊢); grind)))
  k_with "MineLt" => (first | assumption | exact allLt_of (by assumption) | tbn_find | (simp only [AllLt, and_true]; tbn_conj))
  k_with "MineTup" => ((refine DatIn.tuple (List.mem_append.mpr (Or.inr (List.Mem.head _))) ?_; repeat' (first | exact DatAll.nil | refine DatAll.cons ?_ ?_ | walk_at "MineItem")))
  k_with "TurnEnd" => ((refine TurnEnd.intro [(_, _)] (by assumption) (tl1 (by assumption)) (off1 (by walk_at "MineLt")) (by walk_at "MineTup")))
  k_with "MineSub" => (first | exact fun _ h => h | assumption | (intro p hp; first | (exact List.Mem.tail _ (by assumption)) | (simp only [List.mem_append, List.mem_cons, List.not_mem_nil, or_false] at hp ⊢; grind)))
  k_with "subscriptTail" => ((k_here; (with_reducible show wpAny _ _ (subscriptTail _ _ (Value.ref _) (Value.int _ _)) _ _ _); k_dflt (refine' item_tupleT ?mwt ?mwa ?mwb ?mwc ?mwd ?_; (case mwt => exact News.isTup (by k_asm) (by walk_at "MineMem")); (case mwa => decide); (case mwb => decide); (case mwc => rfl); (case mwd => rfl); k_whole)))
  k_with "MineRoom" => (first | assumption | ktr_room | (dsimp only [ktrTop, Around.deeper, Around.in1] at *; simp only [recursionLimit] at *; omega))
  k_with "MineUnits" => (first | ktr_units | (have hcL9 := cLine_is; dsimp only [ktrTop, Around.deeper, Around.in1] at *; omega))
  k_with "And" => (((with_reducible show WrapAt _ _ ∧ _); k_dflt (refine ⟨WrapAt.of (by k_asm) (by walk_at "MineMemD"), ?_⟩); (try dsimp only [List.nil_append, List.cons_append])))
  k_with "eval Name" => ((k_here; (with_reducible show wpAny _ _ (eval (Expr.Name _ _) (compEnvC _ _ _ _)) _ _ _); k_dflt (first | refine LCgL.ld_own (by k_asm) (by walk_at "MineMem") (by assumption) (by assumption) ?_ | refine LCgL.ld_global (by k_asm) (by k_asm) (by k_asm) (by k_is) ?_ | refine LCgL.ld_built (by k_asm) (by k_asm) (by k_asm) (by k_is) (by boot_by_name) (by decide) ?_)))
  k_with "MineMemD" => ((repeat' (first | assumption | exact List.mem_cons_self | (refine List.mem_cons_of_mem _ ?_) | (refine List.mem_append.mpr (Or.inl ?_)) | fail "MineMemD")))
  refine wpAny_call ?_
  k_dflt ktr_enter
  k_steps
  all_goals (refine' hret _ [(_, _)] _ _ (by assumption) (tl1 (by assumption)) (off1 (by walk_at "MineLt")) ?_)
  all_goals (unfold drawnS codeD)
  · rw [if_pos (by assumption)]; walk_at "MineTup"
  · rw [if_neg (by assumption)]; walk_at "MineTup"
theorem after_tel {w : World} {mean : ExcName → Option Value} {mg mb : Str → Option Value} (c : Code3) (f : Form) : Tel PySem.Challenge.rw_ij0164_01.row.prog w (hd.heap_39 w.params) hd.view_39 (looseW hd.view_39 [Str.ofString "filterfalse"]) mean mg mb 164 10 (fun L vs => DatAll L vs [codeD c, f.dat]) (fun L r => DatIn L r (codeD (afterS c f))) := by
  k_fill
  w_top off
  unfold Tel
  intro dp un gd cn cs a ccd cl outer A₀ base h₀ L m news sub s vs Q E B F X N T hk hs hR hd hu hret
  obtain ⟨i, j, k⟩ := c
  obtain ⟨_, _, rfl, h1, h2⟩ := inv2 hR
  obtain ⟨_, _, _, _, _, rfl, hm⟩ := inv3 (show DatIn sub _ (Dat.tuple [Dat.int i, Dat.int j, Dat.int k]) from h1)
  have hm' := hs _ hm
  k_with_none
  k_with "MineMem" => (first | (with_reducible assumption) | (with_reducible exact List.mem_cons_self) | ((with_reducible refine List.mem_append.mpr (Or.inl ?_)); walk_at "MineMem") | ((with_reducible refine List.mem_append.mpr (Or.inr ?_)); walk_at "MineMem") | ((with_reducible refine List.mem_cons_of_mem _ ?_); walk_at "MineMem"))
  k_with "eval ListComp" => ((k_here; k_dflt (refine LCg.ListComp_U (F₀ := by k_asm) (by with_unfolding_all rfl) (by decide) (by rfl) (by decide) (by rfl) ?_)))
  k_with "MineItem" => (first | exact DatIn.none | exact DatIn.bool _ | exact DatIn.int _ _ | exact DatIn.str _ _ | assumption | (refine DatIn.mono ?_ (by assumption); (intro p hp; (try simp only [List.mem_append, List.mem_cons] at hp ⊢); grind)))
  k_with "MineLt" => (first | assumption | exact allLt_of (by assumption) | tbn_find | (simp only [AllLt, and_true]; tbn_conj))
  k_with "MineTup" => ((refine DatIn.tuple (List.mem_append.mpr (Or.inr (List.Mem.head _))) ?_; repeat' (first | exact DatAll.nil | refine DatAll.cons ?_ ?_ | walk_at "MineItem")))
  k_with "TurnEnd" => ((refine TurnEnd.intro [(_, _)] (by assumption) (tl1 (by assumption)) (off1 (by walk_at "MineLt")) (by walk_at "MineTup")))
  k_with "MineSub" => (first | exact fun _ h => h | assumption | (intro p hp; first | (exact List.Mem.tail _ (by assumption)) | (simp only [List.mem_append, List.mem_cons, List.not_mem_nil, or_false] at hp ⊢; grind)))
  k_with "subscriptTail" => ((k_here; (with_reducible show wpAny _ _ (subscriptTail _ _ (Value.ref _) (Value.int _ _)) _ _ _); k_dflt (refine' item_tupleT ?mwt ?mwa ?mwb ?mwc ?mwd ?_; (case mwt => exact News.isTup (by k_asm) (by walk_at "MineMem")); (case mwa => decide); (case mwb => decide); (case mwc => rfl); (case mwd => rfl); k_whole)))
  k_with "MineRoom" => (first | assumption | ktr_room | (dsimp only [ktrTop, Around.deeper, Around.in1] at *; simp only [recursionLimit] at *; omega))
  k_with "MineUnits" => (first | ktr_units | (have hcL9 := cLine_is; dsimp only [ktrTop, Around.deeper, Around.in1] at *; omega))
  k_with "And" => (((with_reducible show WrapAt _ _ ∧ _); k_dflt (refine ⟨WrapAt.of (by k_asm) (by walk_at "MineMemD"), ?_⟩); (try dsimp only [List.nil_append, List.cons_append])))
  k_with "eval Name" => ((k_here; (with_reducible show wpAny _ _ (eval (Expr.Name _ _) (compEnvC _ _ _ _)) _ _ _); k_dflt (first | refine LCgL.ld_own (by k_asm) (by walk_at "MineMem") (by assumption) (by assumption) ?_ | refine LCgL.ld_global (by k_asm) (by k_asm) (by k_asm) (by k_is) ?_ | refine LCgL.ld_built (by k_asm) (by k_asm) (by k_asm) (by k_is) (by boot_by_name) (by decide) ?_)))
  k_with "MineMemD" => ((repeat' (first | assumption | exact List.mem_cons_self | (refine List.mem_cons_of_mem _ ?_) | (refine List.mem_append.mpr (Or.inl ?_)) | fail "MineMemD")))
  cases f <;> cases h2
  all_goals (refine wpAny_call ?_; k_dflt ktr_enter; k_steps)
  all_goals first
    | (refine' hret _ [] _ _ (by assumption) (tl0 (by assumption)) off0 ?_
       (try unfold afterS)
       first
         | (rw [List.append_nil]; exact h1)
         | (rw [if_pos (Or.inl (by assumption)), List.append_nil]; exact h1)
         | (rw [if_pos (Or.inr (by assumption)), List.append_nil]; exact h1))
    | (refine' hret _ [(_, _)] _ _ (by assumption) (tl1 (by assumption)) (off1 (by walk_at "MineLt")) ?_
       unfold afterS codeD
       dsimp only
       (repeat' split)
       all_goals first
         | (exfalso; omega)
         | (walk_at "MineTup"; done))
theorem codeD_eqv (a b : Code3) : PyData.eqv (kqdP (codeD a)) (kqdP (codeD b)) = decide (a = b) := by
  obtain ⟨i, j, k⟩ := a
  obtain ⟨i', j', k'⟩ := b
  apply Bool.eq_iff_iff.mpr
  simp only [codeD, kqdP, kqdPs, PyData.eqv, PyData.eqvAll, Bool.and_true, Bool.and_eq_true, beq_iff_eq, decide_eq_true_eq, Prod.mk.injEq]
theorem num_any (c : Code3) : ((kqdPs [codeD (4, 0, 0), codeD (5, 0, 0)]).any fun y => y.eqv (kqdP (codeD c))) = decide (c = (4, 0, 0) ∨ c = (5, 0, 0)) := by
  simp only [kqdPs, List.any_cons, List.any_nil, codeD_eqv, Bool.or_false, Bool.decide_or, eq_comm]
theorem num_yes {i j k : Int} (h : ((kqdPs [codeD (4, 0, 0), codeD (5, 0, 0)]).any fun y => y.eqv (kqdP (codeD (i, j, k)))) = true) : numS (i, j, k) = (i - 4, 0, 0) := by
  rw [num_any] at h
  unfold numS
  rw [if_pos (of_decide_eq_true h)]
theorem num_no {i j k : Int} (h : ((kqdPs [codeD (4, 0, 0), codeD (5, 0, 0)]).any fun y => y.eqv (kqdP (codeD (i, j, k)))) = false) : numS (i, j, k) = (i, j, k) := by
  rw [num_any] at h
  unfold numS
  rw [if_neg (of_decide_eq_false h)]
theorem num_tel {w : World} {mean : ExcName → Option Value} {mg mb : Str → Option Value} (c : Code3) : Tel PySem.Challenge.rw_ij0164_01.row.prog w (hd.heap_39 w.params) hd.view_39 (looseW hd.view_39 [Str.ofString "filterfalse"]) mean mg mb 185 80 (fun L vs => DatAll L vs [codeD c]) (fun L r => DatIn L r (codeD (numS c))) := by
  k_fill
  w_top off
  unfold Tel
  intro dp un gd cn cs a ccd cl outer A₀ base h₀ L m news sub s vs Q E B F X N T hk hs hR hd hu hret
  obtain ⟨i, j, k⟩ := c
  obtain ⟨_, rfl, h1⟩ := inv1 hR
  obtain ⟨_, _, _, _, _, rfl, hm⟩ := inv3 (show DatIn sub _ (Dat.tuple [Dat.int i, Dat.int j, Dat.int k]) from h1)
  have hm' := hs _ hm
  k_with_none
  k_with "MineMem" => (first | (with_reducible assumption) | (with_reducible exact List.mem_cons_self) | ((with_reducible refine List.mem_append.mpr (Or.inl ?_)); walk_at "MineMem") | ((with_reducible refine List.mem_append.mpr (Or.inr ?_)); walk_at "MineMem") | ((with_reducible refine List.mem_cons_of_mem _ ?_); walk_at "MineMem"))
  k_with "eval ListComp" => ((k_here; k_dflt (refine LCg.ListComp_U (F₀ := by k_asm) (by with_unfolding_all rfl) (by decide) (by rfl) (by decide) (by rfl) ?_)))
  k_with "MineItem" => (first | exact DatIn.none | exact DatIn.bool _ | exact DatIn.int _ _ | exact DatIn.str _ _ | assumption | (refine DatIn.mono ?_ (by assumption); (intro p hp; (try simp only [List.mem_append, List.mem_cons] at hp ⊢); grind)))
  k_with "MineLt" => (first | assumption | exact allLt_of (by assumption) | tbn_find | (simp only [AllLt, and_true]; tbn_conj))
  k_with "MineTup" => ((refine DatIn.tuple (List.mem_append.mpr (Or.inr (List.Mem.head _))) ?_; repeat' (first | exact DatAll.nil | refine DatAll.cons ?_ ?_ | walk_at "MineItem")))
  k_with "TurnEnd" => ((refine TurnEnd.intro [(_, _)] (by assumption) (tl1 (by assumption)) (off1 (by walk_at "MineLt")) (by walk_at "MineTup")))
  k_with "MineSub" => (first | exact fun _ h => h | assumption | (intro p hp; first | (exact List.Mem.tail _ (by assumption)) | (simp only [List.mem_append, List.mem_cons, List.not_mem_nil, or_false] at hp ⊢; grind)))
  k_with "subscriptTail" => ((k_here; (with_reducible show wpAny _ _ (subscriptTail _ _ (Value.ref _) (Value.int _ _)) _ _ _); k_dflt (refine' item_tupleT ?mwt ?mwa ?mwb ?mwc ?mwd ?_; (case mwt => exact News.isTup (by k_asm) (by walk_at "MineMem")); (case mwa => decide); (case mwb => decide); (case mwc => rfl); (case mwd => rfl); k_whole)))
  k_with "MineRoom" => (first | assumption | ktr_room | (dsimp only [ktrTop, Around.deeper, Around.in1] at *; simp only [recursionLimit] at *; omega))
  k_with "MineUnits" => (first | ktr_units | (have hcL9 := cLine_is; dsimp only [ktrTop, Around.deeper, Around.in1] at *; omega))
  k_with "And" => (((with_reducible show WrapAt _ _ ∧ _); k_dflt (refine ⟨WrapAt.of (by k_asm) (by walk_at "MineMemD"), ?_⟩); (try dsimp only [List.nil_append, List.cons_append])))
  k_with "eval Name" => ((k_here; (with_reducible show wpAny _ _ (eval (Expr.Name _ _) (compEnvC _ _ _ _)) _ _ _); k_dflt (first | refine LCgL.ld_own (by k_asm) (by walk_at "MineMem") (by assumption) (by assumption) ?_ | refine LCgL.ld_global (by k_asm) (by k_asm) (by k_asm) (by k_is) ?_ | refine LCgL.ld_built (by k_asm) (by k_asm) (by k_asm) (by k_is) (by boot_by_name) (by decide) ?_)))
  k_with "MineMemD" => ((repeat' (first | assumption | exact List.mem_cons_self | (refine List.mem_cons_of_mem _ ?_) | (refine List.mem_append.mpr (Or.inl ?_)) | fail "MineMemD")))
  k_with "compareOp In ref ref" => (
    refine d_in (n₁ := sub) (da := codeD (i, j, k)) (ds := [codeD (4, 0, 0), codeD (5, 0, 0)]) (by k_asm) h1 ?sa ?_ (fun _ h => h) rfl ?_ ?hu ?_
    case sa => exact fun p hp => .tail _ (.tail _ (.tail _ (hs p hp)))
    case hu => units_room
    · exact DatIn.list (.head _) (.cons (.tuple (.tail _ (.tail _ (.head _))) (.cons (.int _ _) (.cons (.int _ _) (.cons (.int _ _) .nil)))) (.cons (.tuple (.tail _ (.head _)) (.cons (.int _ _) (.cons (.int _ _) (.cons (.int _ _) .nil)))) .nil))
    · intro d hd; rcases List.mem_cons.mp hd with rfl | hd
      · rfl
      · obtain rfl := List.mem_singleton.mp hd; rfl)
  all_goals (refine wpAny_call ?_; k_dflt ktr_enter; k_steps)
  · refine' hret _ [(_, _)] _ _ (by assumption) (newsTl (by assumption) (by intro p hp; walk_at "MineMem")) (off1 (by walk_at "MineLt")) ?_
    rw [num_yes (by assumption)]
    walk_at "MineTup"
  · refine' hret _ [] _ _ (by assumption) (newsIn (by assumption) (by rw [List.append_nil]; exact fun p hp => .tail _ (.tail _ (.tail _ hp)))) off0 ?_
    rw [num_no (by assumption), List.append_nil]
    exact h1

def qSign (stroke : Nat) (esc : Bool) (c : Int) : List Nat :=
  if c.toNat = stroke ∨ c.toNat = 92 then [92, c.toNat] else if c.toNat = 233 ∧ esc = true then [92, 120, 101, 57] else [c.toNat]
def qText (stroke : Nat) (esc : Bool) (l : List Int) : Str := ⟨(stroke :: l.flatMap (qSign stroke esc)).toArray⟩
theorem qText_snoc (k : Nat) (b : Bool) (pre : List Int) (n : Int) : qText k b (pre ++ [n]) = qText k b pre ++ ⟨(qSign k b n).toArray⟩ := by
  refine PySem.Str.ext' (Array.toList_inj.mp ?_)
  rw [PySem.Str.cps_append, Array.toList_append]
  simp [qText, List.flatMap_append]
theorem one_eq {n k : Nat} {st : Str} (hst : st = ⟨#[k]⟩) (h : ((⟨#[n]⟩ : Str) == st) = true) : n = k := by
  subst hst
  have := eq_of_beq h
  simpa using this
theorem one_ne {n k : Nat} {st : Str} (hst : st = ⟨#[k]⟩) (h : ((⟨#[n]⟩ : Str) == st) = false) : n ≠ k := by
  intro e
  subst e; subst hst
  simp at h
theorem app_app (w : Str) (a b : List Nat) : w ++ (⟨a.toArray⟩ : Str) ++ ⟨b.toArray⟩ = w ++ ⟨(a ++ b).toArray⟩ := by
  refine PySem.Str.ext' (Array.toList_inj.mp ?_)
  simp [PySem.Str.cps_append]
theorem len_app (w : Str) (a : List Nat) : (w ++ (⟨a.toArray⟩ : Str)).length = w.length + a.length := by
  simp [PySem.Str.length, PySem.Str.cps_append]
theorem q_end {w : Str} {k n : Nat} {b : Bool} {pre : List Int} {l : List Nat} (hw : w = qText k b pre) (hl : w.length ≤ 4 * pre.length + 1) (h : qSign k b (n : Int) = l) (h4 : l.length ≤ 4) :
    w ++ (⟨l.toArray⟩ : Str) = qText k b (pre ++ [(n : Int)]) ∧ (w ++ (⟨l.toArray⟩ : Str)).length ≤ 4 * (pre ++ [(n : Int)]).length + 1 := by
  refine ⟨by rw [qText_snoc, h, hw], ?_⟩
  rw [len_app]
  simp
  omega
theorem s_bs : Str.ofString "\\" = ⟨[92].toArray⟩ := by decide +kernel
theorem s_xe : Str.ofString "\\xe9" = ⟨[92, 120, 101, 57].toArray⟩ := by decide +kernel
theorem s_e9 : Str.ofString "é" = ⟨#[233]⟩ := by decide +kernel
theorem s_39 : Str.ofString "'" = ⟨#[39]⟩ := by decide +kernel
theorem s_34 : Str.ofString "\"" = ⟨#[34]⟩ := by decide +kernel
theorem q0 {b : Bool} {k : Nat} {st : Str} (h : st = ⟨#[k]⟩) : st = qText k b [] ∧ st.length ≤ 4 * ([] : List Int).length + 1 := by
  subst h; exact ⟨rfl, Nat.le_refl 1⟩
theorem q1 {w st : Str} {k n : Nat} {b : Bool} {pre : List Int} (hst : st = ⟨#[k]⟩) (hw : w = qText k b pre) (hl : w.length ≤ 4 * pre.length + 1) (h : ((⟨#[n]⟩ : Str) == st) = true) :
    w ++ Str.ofString "\\" ++ ⟨#[n]⟩ = qText k b (pre ++ [(n : Int)]) ∧ (w ++ Str.ofString "\\" ++ ⟨#[n]⟩).length ≤ 4 * (pre ++ [(n : Int)]).length + 1 := by
  rw [s_bs, show (⟨#[n]⟩ : Str) = ⟨[n].toArray⟩ from rfl, app_app]
  exact q_end hw hl (by simp [qSign, one_eq hst h]) (by simp)
theorem q2 {w : Str} {k n : Nat} {b : Bool} {pre : List Int} (hw : w = qText k b pre) (hl : w.length ≤ 4 * pre.length + 1) (h : ((⟨#[n]⟩ : Str) == Str.ofString "\\") = true) :
    w ++ Str.ofString "\\" ++ ⟨#[n]⟩ = qText k b (pre ++ [(n : Int)]) ∧ (w ++ Str.ofString "\\" ++ ⟨#[n]⟩).length ≤ 4 * (pre ++ [(n : Int)]).length + 1 := by
  rw [s_bs, show (⟨#[n]⟩ : Str) = ⟨[n].toArray⟩ from rfl, app_app]
  exact q_end hw hl (by simp [qSign, one_eq (k := 92) s_bs h]) (by simp)
theorem q3 {w st : Str} {k n : Nat} {b : Bool} {pre : List Int} (hst : st = ⟨#[k]⟩) (hw : w = qText k b pre) (hl : w.length ≤ 4 * pre.length + 1) (h1 : ((⟨#[n]⟩ : Str) == st) = false) (h2 : ((⟨#[n]⟩ : Str) == Str.ofString "\\") = false)
    (h3 : ((⟨#[n]⟩ : Str) == Str.ofString "é") = true) (hb : b = true) :
    w ++ Str.ofString "\\xe9" = qText k b (pre ++ [(n : Int)]) ∧ (w ++ Str.ofString "\\xe9").length ≤ 4 * (pre ++ [(n : Int)]).length + 1 := by
  rw [s_xe]
  have e1 := one_ne hst h1
  have e2 := one_ne (k := 92) s_bs h2
  have e3 := one_eq s_e9 h3
  exact q_end hw hl (by simp [qSign, e1, e2, hb]; omega) (by simp)
theorem q4 {w st : Str} {k n : Nat} {b : Bool} {pre : List Int} (hst : st = ⟨#[k]⟩) (hw : w = qText k b pre) (hl : w.length ≤ 4 * pre.length + 1) (h1 : ((⟨#[n]⟩ : Str) == st) = false) (h2 : ((⟨#[n]⟩ : Str) == Str.ofString "\\") = false)
    (h3 : ((⟨#[n]⟩ : Str) == Str.ofString "é") = false ∨ b = false) :
    w ++ (⟨#[n]⟩ : Str) = qText k b (pre ++ [(n : Int)]) ∧ (w ++ (⟨#[n]⟩ : Str)).length ≤ 4 * (pre ++ [(n : Int)]).length + 1 := by
  have e1 := one_ne hst h1
  have e2 := one_ne (k := 92) s_bs h2
  have e3 : ¬ (n = 233 ∧ b = true) := by
    rintro ⟨h, rfl⟩
    rcases h3 with h3 | h3
    · exact one_ne s_e9 h3 h
    · cases h3
  exact q_end (l := [n]) hw hl (by simp only [qSign, Int.toNat_natCast, e1, e2, or_self, if_false, e3]) (by simp)
def occ (x : Str) (y : Str) : Bool := (Builtin.Str.occurrences x y 0 x.length 1).isEmpty
def quoK (x : Str) : Nat := if occ x (Str.ofString "'") = false ∧ occ x (Str.ofString "\"") = true then 34 else 39
def quotedS (x : Str) (b : Bool) : Str := qText (quoK x) b (KStt.codes x) ++ ⟨[quoK x].toArray⟩
theorem quoK_a {x : Str} (h : (Builtin.Str.occurrences x (Str.ofString "'") 0 x.length 1).isEmpty = true) : quoK x = 39 := by
  unfold quoK occ
  rw [h, if_neg (by simp)]
theorem quoK_b {x : Str} (h : (Builtin.Str.occurrences x (Str.ofString "'") 0 x.length 1).isEmpty = false) (h2 : (Builtin.Str.occurrences x (Str.ofString "\"") 0 x.length 1).isEmpty = true) : quoK x = 34 := by
  unfold quoK occ
  rw [h, h2, if_pos ⟨rfl, rfl⟩]
theorem quoK_c {x : Str} (h2 : (Builtin.Str.occurrences x (Str.ofString "\"") 0 x.length 1).isEmpty = false) : quoK x = 39 := by
  unfold quoK occ
  rw [h2, if_neg (by simp)]
theorem quoEnd {x w st : Str} {b : Bool} {k : Nat} (hk : quoK x = k) (hst : st = ⟨#[k]⟩) (hw : w = qText k b (KStt.codes x)) : w ++ st = quotedS x b := by
  unfold quotedS
  rw [hk, hw, hst]
theorem quo_tel {w : World} {mean : ExcName → Option Value} {mg mb : Str → Option Value} (x : Str) (b : Bool) (hx : x.length ≤ 1000) : Tel PySem.Challenge.rw_ij0164_01.row.prog w (hd.heap_39 w.params) hd.view_39 (looseW hd.view_39 [Str.ofString "filterfalse"]) mean mg mb 171 10 (fun L vs => DatAll L vs [.str x, .bool b]) (fun L r => DatIn L r (.str (quotedS x b))) := by
  k_fill
  w_top off
  unfold Tel
  intro dp un gd cn cs a ccd cl outer A₀ base h₀ L m news sub s vs Q E B F X N T hk hs hR hd hu hret
  obtain ⟨_, _, rfl, h1, h2⟩ := inv2 hR
  obtain ⟨_, rfl⟩ := invS h1
  obtain rfl := invB h2
  k_with_none
  k_with "MineMem" => (first | (with_reducible assumption) | (with_reducible exact List.mem_cons_self) | ((with_reducible refine List.mem_append.mpr (Or.inl ?_)); walk_at "MineMem") | ((with_reducible refine List.mem_append.mpr (Or.inr ?_)); walk_at "MineMem") | ((with_reducible refine List.mem_cons_of_mem _ ?_); walk_at "MineMem"))
  k_with "eval ListComp" => ((k_here; k_dflt (refine LCg.ListComp_U (F₀ := by k_asm) (by with_unfolding_all rfl) (by decide) (by rfl) (by decide) (by rfl) ?_)))
  k_with "MineItem" => (first | exact DatIn.none | exact DatIn.bool _ | exact DatIn.int _ _ | exact DatIn.str _ _ | assumption | (refine DatIn.mono ?_ (by assumption); (intro p hp; (try simp only [List.mem_append, List.mem_cons] at hp ⊢); grind)))
  k_with "MineLt" => (first | assumption | exact allLt_of (by assumption) | tbn_find | (simp only [AllLt, and_true]; tbn_conj))
  k_with "MineTup" => ((refine DatIn.tuple (List.mem_append.mpr (Or.inr (List.Mem.head _))) ?_; repeat' (first | exact DatAll.nil | refine DatAll.cons ?_ ?_ | walk_at "MineItem")))
  k_with "TurnEnd" => ((refine TurnEnd.intro [(_, _)] (by assumption) (tl1 (by assumption)) (off1 (by walk_at "MineLt")) (by walk_at "MineTup")))
  k_with "MineSub" => (first | exact fun _ h => h | assumption | (intro p hp; first | (exact List.Mem.tail _ (by assumption)) | (simp only [List.mem_append, List.mem_cons, List.not_mem_nil, or_false] at hp ⊢; grind)))
  k_with "subscriptTail" => ((k_here; (with_reducible show wpAny _ _ (subscriptTail _ _ (Value.ref _) (Value.int _ _)) _ _ _); k_dflt (refine' item_tupleT ?mwt ?mwa ?mwb ?mwc ?mwd ?_; (case mwt => exact News.isTup (by k_asm) (by walk_at "MineMem")); (case mwa => decide); (case mwb => decide); (case mwc => rfl); (case mwd => rfl); k_whole)))
  k_with "MineRoom" => (first | assumption | ktr_room | (dsimp only [ktrTop, Around.deeper, Around.in1] at *; simp only [recursionLimit] at *; omega))
  k_with "MineUnits" => (first | ktr_units | (have hcL9 := cLine_is; dsimp only [ktrTop, Around.deeper, Around.in1] at *; omega))
  k_with "And" => (((with_reducible show WrapAt _ _ ∧ _); k_dflt (refine ⟨WrapAt.of (by k_asm) (by walk_at "MineMemD"), ?_⟩); (try dsimp only [List.nil_append, List.cons_append])))
  k_with "eval Name" => ((k_here; (with_reducible show wpAny _ _ (eval (Expr.Name _ _) (compEnvC _ _ _ _)) _ _ _); k_dflt (first | refine LCgL.ld_own (by k_asm) (by walk_at "MineMem") (by assumption) (by assumption) ?_ | refine LCgL.ld_global (by k_asm) (by k_asm) (by k_asm) (by k_is) ?_ | refine LCgL.ld_built (by k_asm) (by k_asm) (by k_asm) (by k_is) (by boot_by_name) (by decide) ?_)))
  k_with "MineMemD" => ((repeat' (first | assumption | exact List.mem_cons_self | (refine List.mem_cons_of_mem _ ?_) | (refine List.mem_append.mpr (Or.inl ?_)) | fail "MineMemD")))
  k_with "state" => first
    | exact q0 s_39
    | exact q0 s_34
    | exact q1 s_39 (by assumption) (by assumption) (by assumption)
    | exact q1 s_34 (by assumption) (by assumption) (by assumption)
    | exact q2 (by assumption) (by assumption) (by assumption)
    | exact q3 s_39 (by assumption) (by assumption) (by assumption) (by assumption) (by assumption) (by assumption)
    | exact q3 s_34 (by assumption) (by assumption) (by assumption) (by assumption) (by assumption) (by assumption)
    | exact q4 s_39 (by assumption) (by assumption) (by assumption) (by assumption) (Or.inl (by assumption))
    | exact q4 s_39 (by assumption) (by assumption) (by assumption) (by assumption) (Or.inr (by assumption))
    | exact q4 s_34 (by assumption) (by assumption) (by assumption) (by assumption) (Or.inl (by assumption))
    | exact q4 s_34 (by assumption) (by assumption) (by assumption) (by assumption) (Or.inr (by assumption))
  k_with "pyIter str" => first
    | k_state (fun pre w => w = qText 39 b pre ∧ w.length ≤ 4 * pre.length + 1) "written"
    | k_state (fun pre w => w = qText 34 b pre ∧ w.length ≤ 4 * pre.length + 1) "written"
  refine wpAny_call ?_
  k_dflt ktr_enter
  k_steps
  all_goals (refine hret _ [] _ _ (by assumption) (tl0 (by assumption)) off0 ?_)
  · rw [quoEnd (quoK_a (by assumption)) s_39 (by assumption)]; exact DatIn.str _ _
  · rw [quoEnd (quoK_b (by assumption) (by assumption)) s_34 (by assumption)]; exact DatIn.str _ _
  · rw [quoEnd (quoK_c (by assumption)) s_39 (by assumption)]; exact DatIn.str _ _
theorem qSign_len (k : Nat) (b : Bool) (c : Int) : (qSign k b c).length ≤ 4 := by
  unfold qSign
  repeat' split
  all_goals simp
theorem qText_len (k : Nat) (b : Bool) : ∀ l : List Int, (qText k b l).length ≤ 4 * l.length + 1
  | [] => Nat.le_refl 1
  | c :: l => by
    have h1 := qText_len k b l
    have h2 := qSign_len k b c
    simp only [qText, PySem.Str.length, List.size_toArray, List.length_cons, List.flatMap_cons, List.length_append] at h1 ⊢
    omega
theorem quoted_len (x : Str) (b : Bool) : (quotedS x b).length ≤ 4 * x.length + 2 := by
  unfold quotedS
  have h1 := qText_len (quoK x) b (KStt.codes x)
  rw [KStt.codes_length] at h1
  rw [len_app]
  simp only [List.length_singleton]
  omega

def first0 : List Dat := [.int 0, .int 1, .int (-12), .none, .bool false, .bool true, .str (Str.ofString ""), .str (Str.ofString "it's"), .str (Str.ofString "\\"), .str (Str.ofString "é")]
def plain0 : List Dat := [.str (Str.ofString "0"), .str (Str.ofString "1"), .str (Str.ofString "-12"), .str (Str.ofString "None"), .str (Str.ofString "False"), .str (Str.ofString "True")]
def thing0 (i : Int) : Dat := (first0[i.toNat]?).getD .none
def thingN (c : Code3) : Nat → Dat
  | 0 => thing0 c.1
  | n + 1 => if n = 0 ∧ c.1 < 6 then (plain0[c.1.toNat]?).getD .none else match thingN c n with
    | .str x => .str (quotedS x (decide (c.2.1 ≤ (n : Int))))
    | d => d
theorem thing_start {c : Code3} {d : Dat} (h : first0[c.1.toNat]? = some d) : d = thingN c ([] : List Int).length := by
  show d = thing0 c.1
  unfold thing0
  rw [h]; rfl
def isS (n : Nat) : Dat → Bool
  | .str x => decide (x.length ≤ n)
  | _ => false
theorem isS_ex {n : Nat} {d : Dat} (h : isS n d = true) : ∃ x : Str, d = .str x ∧ x.length ≤ n := by
  cases d <;> first | exact ⟨_, rfl, of_decide_eq_true h⟩ | exact absurd h Bool.false_ne_true
theorem first_all : (first0.drop 6).all (isS 4) = true := by decide +kernel
theorem plain_all : plain0.all (isS 5) = true := by decide +kernel
theorem first_fl : first0.all flat = true := by decide +kernel
theorem first_str {i : Int} {d : Dat} (h : first0[i.toNat]? = some d) (h6 : 6 ≤ i) : ∃ x : Str, d = .str x ∧ x.length ≤ 4 := by
  have q : (first0.drop 6)[i.toNat - 6]? = some d := by
    rw [List.getElem?_drop, show 6 + (i.toNat - 6) = i.toNat by omega]; exact h
  exact isS_ex (List.all_eq_true.mp first_all d (List.mem_of_getElem? q))
theorem plain_str {i : Int} {d : Dat} (h : plain0[i.toNat]? = some d) : ∃ x : Str, d = .str x ∧ x.length ≤ 5 := isS_ex (List.all_eq_true.mp plain_all d (List.mem_of_getElem? h))
theorem thing0_flat (i : Int) : flat (thing0 i) = true := by
  unfold thing0
  cases h : first0[i.toNat]? with
  | none => rfl
  | some d => exact List.all_eq_true.mp first_fl d (List.mem_of_getElem? h)
theorem thing_str {c : Code3} (h0 : 0 ≤ c.1) (h9 : c.1 ≤ 9) : ∀ n : Nat, (n ≠ 0 ∨ 6 ≤ c.1) → ∃ x : Str, thingN c n = .str x ∧ x.length + 1 ≤ 6 * 4 ^ n
  | 0, h => by
    have h6 : 6 ≤ c.1 := by omega
    have hlt : c.1.toNat < first0.length := by show _ < 10; omega
    obtain ⟨x, hx, hl⟩ := first_str (List.getElem?_eq_getElem hlt) h6
    refine ⟨x, ?_, by omega⟩
    show thing0 c.1 = _
    unfold thing0
    rw [List.getElem?_eq_getElem hlt, hx]; rfl
  | n + 1, _ => by
    by_cases hc : n = 0 ∧ c.1 < 6
    · have hlt : c.1.toNat < plain0.length := by show _ < 6; omega
      obtain ⟨x, hx, hl⟩ := plain_str (List.getElem?_eq_getElem hlt)
      refine ⟨x, ?_, ?_⟩
      · show (if n = 0 ∧ c.1 < 6 then _ else _) = _
        rw [if_pos hc, List.getElem?_eq_getElem hlt, hx]; rfl
      · rw [hc.1]; omega
    · obtain ⟨x, hx, hl⟩ := thing_str h0 h9 n (by omega)
      refine ⟨quotedS x (decide (c.2.1 ≤ (n : Int))), ?_, ?_⟩
      · show (if n = 0 ∧ c.1 < 6 then _ else _) = _
        rw [if_neg hc, hx]
      · have := quoted_len x (decide (c.2.1 ≤ (n : Int)))
        rw [Nat.pow_succ]
        omega
theorem thing_flat {c : Code3} (h0 : 0 ≤ c.1) (h9 : c.1 ≤ 9) : ∀ n : Nat, flat (thingN c n) = true
  | 0 => thing0_flat c.1
  | n + 1 => by
    obtain ⟨x, hx, _⟩ := thing_str h0 h9 (n + 1) (.inl (Nat.succ_ne_zero n))
    rw [hx]; rfl
theorem thing_plain {c : Code3} {d : Dat} {pre : List Int} {n : Int} (h : plain0[c.1.toNat]? = some d) (hn : n = 0 + (pre.length : Int)) (h0 : n = 0) (h6 : c.1 < 6) : d = thingN c (pre ++ [n]).length := by
  have hp : pre.length = 0 := by omega
  rw [List.length_append, hp]
  show d = (if 0 = 0 ∧ c.1 < 6 then _ else _)
  rw [if_pos ⟨rfl, h6⟩, h]; rfl
theorem thing_quoted {c : Code3} {x : Str} {pre : List Int} {n : Int} (h : thingN c pre.length = .str x) (hn : n = 0 + (pre.length : Int)) (hc : n ≠ 0 ∨ ¬ c.1 < 6) : Dat.str (quotedS x (decide (c.2.1 ≤ n))) = thingN c (pre ++ [n]).length := by
  rw [List.length_append]
  show _ = (if pre.length = 0 ∧ c.1 < 6 then _ else _)
  rw [if_neg (by omega), h]
  have e : n = (pre.length : Int) := by omega
  rw [e]
def thingS (c : Code3) : Dat := thingN c (c.2.1 + c.2.2).toNat
theorem thing_tel {w : World} {mean : ExcName → Option Value} {mg mb : Str → Option Value} (c : Code3) (hi : 0 ≤ c.1) (hi9 : c.1 ≤ 9) (hj : 0 ≤ c.2.1) (hk0 : 0 ≤ c.2.2) (hjk : c.2.1 + c.2.2 ≤ 3) : Tel PySem.Challenge.rw_ij0164_01.row.prog w (hd.heap_39 w.params) hd.view_39 (looseW hd.view_39 [Str.ofString "filterfalse"]) mean mg mb 178 80 (fun L vs => DatAll L vs [codeD c]) (fun L r => DatIn L r (thingS c)) := by
  k_fill
  w_top off
  unfold Tel
  intro dp un gd cn cs a ccd cl outer A₀ base h₀ L m news sub s vs Q E B F X N T hk hs hR hd hu hret
  obtain ⟨i, j, k⟩ := c
  dsimp only at hi hi9 hj hk0 hjk
  obtain ⟨_, rfl, h1⟩ := inv1 hR
  obtain ⟨_, _, _, _, _, rfl, hm⟩ := inv3 (show DatIn sub _ (Dat.tuple [Dat.int i, Dat.int j, Dat.int k]) from h1)
  have hm' := hs _ hm
  k_with_none
  k_with "MineMem" => (first | (with_reducible assumption) | (with_reducible exact List.mem_cons_self) | ((with_reducible refine List.mem_append.mpr (Or.inl ?_)); walk_at "MineMem") | ((with_reducible refine List.mem_append.mpr (Or.inr ?_)); walk_at "MineMem") | ((with_reducible refine List.mem_cons_of_mem _ ?_); walk_at "MineMem"))
  k_with "eval ListComp" => ((k_here; k_dflt (refine LCg.ListComp_U (F₀ := by k_asm) (by with_unfolding_all rfl) (by decide) (by rfl) (by decide) (by rfl) ?_)))
  k_with "MineItem" => (first | exact DatIn.none | exact DatIn.bool _ | exact DatIn.int _ _ | exact DatIn.str _ _ | assumption | (refine DatIn.mono ?_ (by assumption); (intro p hp; (try simp only [List.mem_append, List.mem_cons] at hp ⊢); grind)))
  k_with "MineLt" => (first | assumption | exact allLt_of (by assumption) | tbn_find | (simp only [AllLt, and_true]; tbn_conj))
  k_with "MineTup" => ((refine DatIn.tuple (List.mem_append.mpr (Or.inr (List.Mem.head _))) ?_; repeat' (first | exact DatAll.nil | refine DatAll.cons ?_ ?_ | walk_at "MineItem")))
  k_with "TurnEnd" => ((refine TurnEnd.intro [(_, _)] (by assumption) (tl1 (by assumption)) (off1 (by walk_at "MineLt")) (by walk_at "MineTup")))
  k_with "MineSub" => (first | exact fun _ h => h | assumption | (intro p hp; first | (exact List.Mem.tail _ (by assumption)) | (simp only [List.mem_append, List.mem_cons, List.not_mem_nil, or_false] at hp ⊢; grind)))
  k_with "subscriptTail" => ((k_here; (with_reducible show wpAny _ _ (subscriptTail _ _ (Value.ref _) (Value.int _ _)) _ _ _); k_dflt (refine' item_tupleT ?mwt ?mwa ?mwb ?mwc ?mwd ?_; (case mwt => exact News.isTup (by k_asm) (by walk_at "MineMem")); (case mwa => decide); (case mwb => decide); (case mwc => rfl); (case mwd => rfl); k_whole)))
  k_with "MineRoom" => (first | assumption | ktr_room | (dsimp only [ktrTop, Around.deeper, Around.in1] at *; simp only [recursionLimit] at *; omega))
  k_with "MineUnits" => (first | ktr_units | (have hcL9 := cLine_is; dsimp only [ktrTop, Around.deeper, Around.in1] at *; omega))
  k_with "And" => (((with_reducible show WrapAt _ _ ∧ _); k_dflt (refine ⟨WrapAt.of (by k_asm) (by walk_at "MineMemD"), ?_⟩); (try dsimp only [List.nil_append, List.cons_append])))
  k_with "eval Name" => ((k_here; (with_reducible show wpAny _ _ (eval (Expr.Name _ _) (compEnvC _ _ _ _)) _ _ _); k_dflt (first | refine LCgL.ld_own (by k_asm) (by walk_at "MineMem") (by assumption) (by assumption) ?_ | refine LCgL.ld_global (by k_asm) (by k_asm) (by k_asm) (by k_is) ?_ | refine LCgL.ld_built (by k_asm) (by k_asm) (by k_asm) (by k_is) (by boot_by_name) (by decide) ?_)))
  k_with "MineMemD" => ((repeat' (first | assumption | exact List.mem_cons_self | (refine List.mem_cons_of_mem _ ?_) | (refine List.mem_append.mpr (Or.inl ?_)) | fail "MineMemD")))
  k_with "state" => first
    | exact thing_start (by assumption)
    | exact thing_plain (c := (i, j, k)) (by assumption) (by assumption) (by assumption) (by assumption)
    | exact thing_quoted (c := (i, j, k)) (by assumption) (by assumption) (Or.inl (by assumption))
    | exact thing_quoted (c := (i, j, k)) (by assumption) (by assumption) (Or.inr (by assumption))
  k_with "pyIter ref" => k_dat (fun pre d => d = thingN (i, j, k) pre.length) "thing*"
  k_with "subscriptTail Name Name ref int" => first
    | (refine kd_item (ds := first0) (L9 := []) (by k_asm) (by walk_at "MineMem") ?_ (by omega) (by show _ < ((10 : Nat) : Int); omega) (by omega) ?_ (by with_unfolding_all rfl)
       (focus exact .cons (.int _ _) (.cons (.int _ _) (.cons (.int _ _) (.cons .none (.cons (.bool _) (.cons (.bool _) (.cons (.str _ _) (.cons (.str _ _) (.cons (.str _ _) (.cons (.str _ _) .nil))))))))))
       intro v' d' hk' hm' hD')
    | (refine kd_item (ds := plain0) (L9 := []) (by k_asm) (by walk_at "MineMem") ?_ (by omega) (by show _ < ((6 : Nat) : Int); omega) (by omega) ?_ (by with_unfolding_all rfl)
       (focus exact .cons (.str _ _) (.cons (.str _ _) (.cons (.str _ _) (.cons (.str _ _) (.cons (.str _ _) (.cons (.str _ _) .nil))))))
       intro v' d' hk2' hm' hD')
  k_with "call ref" => (
    (obtain ⟨x', hx', hl'⟩ := thing_str (c := (i, j, k)) hi hi9 kPre.length (by dsimp only; omega))
    have hl2 : x'.length ≤ 1000 := (by
      have h2 : kPre.length ≤ 2 := (by omega)
      have h3 : 4 ^ kPre.length ≤ 4 ^ 2 := Nat.pow_le_pow_right (by decide) h2
      omega)
    have hK := kFacts
    rw [hx'] at hK
    cases hK
    refine' tel_use (sub := []) (quo_tel x' _ hl2) (by k_asm) (by k_asm) (by k_asm) (by k_asm) (by k_asm) (by first | exact rfl | assumption) (fun _ h => nomatch h) (DatAll.cons (DatIn.str _ _) (DatAll.cons (DatIn.bool _) .nil)) (by walk_at "MineRoom") (by walk_at "MineUnits") ?_
    intro r9 tl9 h9 tk9 F9 N9 hne9 ho9
    cases ho9
    replace N9 := newsIn N9 (fun p hp => List.mem_append.mpr (Or.inl hp)))
  refine wpAny_call ?_
  k_dflt ktr_enter
  k_steps
  refine hret _ [] _ _ (by assumption) (newsIn (by assumption) (by intro p hp; rw [List.append_nil] at hp; walk_at "MineMem")) off0 ?_
  rw [rangeKs_length, Int.sub_zero] at kFacts
  exact datIn_flat kFacts (thing_flat (c := (i, j, k)) hi hi9 _)

theorem entry_ascii : entryFor table "ascii" = some Builtin.«ascii» := entryFor_of_tree (by kernel_rfl)
theorem kind_ascii : builtinKind "ascii" = none := by decide +kernel
theorem plain_ascii : plainId "ascii" = true := by decide +kernel
theorem args_ascii1 (a : Value) : argsOk "ascii" ⟨[a], []⟩ := by unfold argsOk; kernel_rfl
/-- a figure below 16, as its sign's number -/
def figN (d : Nat) : Nat := if d < 10 then 48 + d else 87 + d
/-- a sign below 256 in plain signs -/
def plainN (c : Nat) : List Nat := if c < 128 then [c] else [92, 120, figN (c / 16), figN (c % 16)]
def asciiT (x : Str) : Str := if x.cps.all (· < 128) then x else ⟨x.cps.flatMap fun c => (plainN c).toArray⟩
theorem flat_eq {f : Nat → List Nat} {x : Array Nat} (hx : x.all (· < 256) = true) (h : ∀ c ∈ List.range 256, f c = plainN c) : (⟨x.flatMap fun c => (f c).toArray⟩ : Str) = ⟨x.flatMap fun c => (plainN c).toArray⟩ := by
  refine PySem.Str.ext' (Array.toList_inj.mp ?_)
  simp only [Array.toList_flatMap]
  have e : ∀ l : List Nat, (∀ c ∈ l, c < 256) → l.flatMap (fun c => (f c).toArray.toList) = l.flatMap (fun c => (plainN c).toArray.toList) := by
    intro l
    induction l with
    | nil => intro _; rfl
    | cons c l ih =>
      intro hl
      rw [List.flatMap_cons, List.flatMap_cons, ih fun d hd => hl d (.tail _ hd), h c (List.mem_range.mpr (hl c (.head _)))]
  refine e _ fun c hc => ?_
  rw [← Array.all_toList, List.all_eq_true] at hx
  exact of_decide_eq_true (hx c hc)
def ascOk (x : Str) : Bool := decide (x.length ≤ 1000) && decide ((asciiT x).length ≤ 1000) && x.cps.all (· < 256)
theorem mkStr_eq {M : Model} {A : Around} {E : Value → Shared → Prop} {s : Shared} {x y : Str} {Q : Value → Shared → Prop} (e : x = y) (h : wpAny M A (mkStr y) Q E s) : wpAny M A (mkStr x) Q E s := by rw [e]; exact h
def strT : Dat → Str
  | .none => Str.ofString "None"
  | .bool b => if b then Str.ofString "True" else Str.ofString "False"
  | .int i => Str.ofString (toString i)
  | .str x => x
  | _ => Str.empty
def reprT : Dat → Str
  | .str x => reprText x
  | d => strT d
def convS (f : Form) (d : Dat) : Dat := match f with
  | .no => d
  | .s => .str (strT d)
  | .r => .str (reprT d)
  | .a => .str (asciiT (reprT d))
section
variable {prog : Program} {w : World} {A : Around} {E : Value → Shared → Prop} {s : Shared}
theorem ascii_gives {T id : String} {B : Builtin} {v : Value} {x : Str} {Q : Value → Shared → Prop} (hT : s.TypeIs v T) (slot : Slot T "__repr__" id)
    (entry : entryFor table id = some B) (args : argsOk id ⟨[v], []⟩) (g : Gives (B ⟨[v], []⟩) (.str x)) (hv : [v].any Value.onHeap = false) (ho : ascOk x = true)
    (h : ∀ t k, Q (.str (asciiT x) t) { s with toks := k }) :
    wpAny (model prog w) A (call (.builtin "ascii") [v]) Q E s := by
  obtain ⟨h1, h256⟩ := Bool.and_eq_true_iff.mp ho
  obtain ⟨hx, hx2⟩ := Bool.and_eq_true_iff.mp h1
  have hx := of_decide_eq_true hx
  have hx2 := of_decide_eq_true hx2
  refine Calls.call_function_entry kind_ascii plain_ascii entry_ascii (args_ascii1 _) ?_
  unfold Builtin.«ascii»
  refine wpAny_bind (m := oneArg "ascii" _) (wpAny_pure ?_)
  simp only [cRoomFor, hv, Bool.false_eq_true, if_false, pure_bind]
  have hsz : x.length ≤ sizeLine := by rw [sizeLine_eq]; omega
  refine wpAny_bind (m := callSpecialIfBound? v (Str.ofString "__repr__")) (wpAny_callSpecialIfBound?_slot (name := Str.ofString "__repr__") hT slot (call_gives slot hT entry args g ⟨hsz, ?_⟩))
  dsimp only
  refine wpAny_bind (wpAny_pure ?_)
  dsimp only
  split
  · rename_i ha
    refine wpAny_bind (wpAny_rule ?_)
    refine wpAny_bind (wpAny_pure ?_)
    refine wpAny_pure ⟨_, rfl, ?_⟩
    have e : asciiT x = x := if_pos ha
    have q := h s.toks (s.toks + 1)
    rw [e] at q
    exact q
  · rename_i ha
    refine wpAny_bind (wpAny_letGo ?_)
    have e : asciiT x = ⟨x.cps.flatMap fun c => (plainN c).toArray⟩ := if_neg ha
    rw [e] at hx2 h
    rw [if_neg (by
      intro hc
      have h1 := (Bool.and_eq_true_iff.mp hc).1
      have h2 := of_decide_eq_true h1
      rw [sizeLine_eq] at h2
      have h3 : (Str.length x) = x.length := rfl
      omega)]
    refine wpAny_bind (mkStr_eq (flat_eq h256 ?_) (wpAny_mkStr ?_ (by rw [sizeLine_eq]; omega)))
    · decide +kernel
    refine wpAny_pure ⟨_, rfl, ?_⟩
    exact h _ _
end
theorem log2_small {a : Int} (h : a.natAbs ≤ 100) : a.natAbs.log2 < 1920 := Nat.lt_of_le_of_lt (Nat.log2_le_self _) (by omega)
/-- what convert_field is asked for here -/
def convOk : Dat → Prop
  | .int i => i.natAbs ≤ 100 ∧ ascOk (Str.ofString (toString i)) = true
  | .str x => ascOk (reprText x) = true
  | .none => True
  | .bool _ => True
  | _ => False
theorem asc_len {x : Str} (h : ascOk x = true) : x.length ≤ 1000 := of_decide_eq_true (Bool.and_eq_true_iff.mp (Bool.and_eq_true_iff.mp h).1).1
section
variable {prog : Program} {w : World} {A : Around} {E : Value → Shared → Prop} {s : Shared} {L : List (Addr × Obj)} {v : Value} {d : Dat} {Q : Value → Shared → Prop}
theorem str_dat (hf : convOk d) (hv : DatIn L v d) (h : ∀ t k, Q (.str (strT d) t) { s with toks := k }) : wpAny (model prog w) A (call (.type "str") [v]) Q E s := by
  cases hv with
  | none => exact P.str_of_none (h _ _)
  | bool b => exact P.str_of_bool (by cases b <;> exact h _ _)
  | int i t => exact P.str_of_int (log2_small hf.1) (h _ _)
  | str x t => exact P.str_of_str (h _ s.toks)
  | _ => exact absurd hf id
theorem repr_dat (hf : convOk d) (hv : DatIn L v d) (h : ∀ t k, Q (.str (reprT d) t) { s with toks := k }) : wpAny (model prog w) A (call (.builtin "repr") [v]) Q E s := by
  cases hv with
  | none => exact P.repr_of_none (h _ _)
  | bool b => exact P.repr_of_bool (by cases b <;> exact h _ _)
  | int i t => exact P.repr_of_int (log2_small hf.1) (h _ _)
  | str x t => exact P.repr_of_str (h _ _) (hsz := Nat.le_trans (asc_len hf) (by decide))
  | _ => exact absurd hf id
theorem ascii_dat (hf : convOk d) (hv : DatIn L v d) (h : ∀ t k, Q (.str (asciiT (reprT d)) t) { s with toks := k }) : wpAny (model prog w) A (call (.builtin "ascii") [v]) Q E s := by
  cases hv with
  | none => exact ascii_gives (typeIs_none s) F.slot_NoneType_repr F.entry_NoneType_repr (F.args_NoneType_repr_1 _) gives_none_repr rfl (by decide +kernel) h
  | bool b => exact ascii_gives (PySem.typeIs_bool s b) F.slot_bool_repr F.entry_bool_repr (F.args_bool_repr_1 _) (gives_bool_repr b) rfl (by cases b <;> decide +kernel) (by cases b <;> exact h)
  | int i t => exact ascii_gives (typeIs_int s i t) F.slot_int_repr F.entry_int_repr (F.args_int_repr_1 _) (gives_int_repr i t (log2_small hf.1)) rfl hf.2 h
  | str x t => exact ascii_gives (typeIs_str s x t) F.slot_str_repr F.entry_str_repr (F.args_str_repr_1 _) (gives_str_repr x t) rfl hf h
  | _ => exact absurd hf id
end
theorem conv_tel {w : World} {mean : ExcName → Option Value} {mg mb : Str → Option Value} (d : Dat) (f : Form) (hf : convOk d) : Tel PySem.Challenge.rw_ij0164_01.row.prog w (hd.heap_39 w.params) hd.view_39 (looseW hd.view_39 [Str.ofString "filterfalse"]) mean mg mb 85 30 (fun L vs => ∃ x v y, vs = [.ref x, v, y] ∧ DatIn L v d ∧ DatIn L y f.dat) (fun L r => DatIn L r (convS f d)) := by
  k_fill
  w_top off
  unfold Tel
  intro dp un gd cn cs a ccd cl outer A₀ base h₀ L m news sub s vs Q E B F X N T hk hs hR hd hu hret
  obtain ⟨x, v, y, rfl, hv, hy⟩ := hR
  k_with_none
  k_with "MineMem" => (first | (with_reducible assumption) | (with_reducible exact List.mem_cons_self) | ((with_reducible refine List.mem_append.mpr (Or.inl ?_)); walk_at "MineMem") | ((with_reducible refine List.mem_append.mpr (Or.inr ?_)); walk_at "MineMem") | ((with_reducible refine List.mem_cons_of_mem _ ?_); walk_at "MineMem"))
  k_with "eval ListComp" => ((k_here; k_dflt (refine LCg.ListComp_U (F₀ := by k_asm) (by with_unfolding_all rfl) (by decide) (by rfl) (by decide) (by rfl) ?_)))
  k_with "MineItem" => (first | exact DatIn.none | exact DatIn.bool _ | exact DatIn.int _ _ | exact DatIn.str _ _ | assumption | (refine DatIn.mono ?_ (by assumption); (intro p hp; (try simp only [List.mem_append, List.mem_cons] at hp ⊢); grind)))
  k_with "MineLt" => (first | assumption | exact allLt_of (by assumption) | tbn_find | (simp only [AllLt, and_true]; tbn_conj))
  k_with "MineTup" => ((refine DatIn.tuple (List.mem_append.mpr (Or.inr (List.Mem.head _))) ?_; repeat' (first | exact DatAll.nil | refine DatAll.cons ?_ ?_ | walk_at "MineItem")))
  k_with "TurnEnd" => ((refine TurnEnd.intro [(_, _)] (by assumption) (tl1 (by assumption)) (off1 (by walk_at "MineLt")) (by walk_at "MineTup")))
  k_with "MineSub" => (first | exact fun _ h => h | assumption | (intro p hp; first | (exact List.Mem.tail _ (by assumption)) | (simp only [List.mem_append, List.mem_cons, List.not_mem_nil, or_false] at hp ⊢; grind)))
  k_with "subscriptTail" => ((k_here; (with_reducible show wpAny _ _ (subscriptTail _ _ (Value.ref _) (Value.int _ _)) _ _ _); k_dflt (refine' item_tupleT ?mwt ?mwa ?mwb ?mwc ?mwd ?_; (case mwt => exact News.isTup (by k_asm) (by walk_at "MineMem")); (case mwa => decide); (case mwb => decide); (case mwc => rfl); (case mwd => rfl); k_whole)))
  k_with "MineRoom" => (first | assumption | ktr_room | (dsimp only [ktrTop, Around.deeper, Around.in1] at *; simp only [recursionLimit] at *; omega))
  k_with "MineUnits" => (first | ktr_units | (have hcL9 := cLine_is; dsimp only [ktrTop, Around.deeper, Around.in1] at *; omega))
  k_with "And" => (((with_reducible show WrapAt _ _ ∧ _); k_dflt (refine ⟨WrapAt.of (by k_asm) (by walk_at "MineMemD"), ?_⟩); (try dsimp only [List.nil_append, List.cons_append])))
  k_with "eval Name" => ((k_here; (with_reducible show wpAny _ _ (eval (Expr.Name _ _) (compEnvC _ _ _ _)) _ _ _); k_dflt (first | refine LCgL.ld_own (by k_asm) (by walk_at "MineMem") (by assumption) (by assumption) ?_ | refine LCgL.ld_global (by k_asm) (by k_asm) (by k_asm) (by k_is) ?_ | refine LCgL.ld_built (by k_asm) (by k_asm) (by k_asm) (by k_is) (by boot_by_name) (by decide) ?_)))
  k_with "MineMemD" => ((repeat' (first | assumption | exact List.mem_cons_self | (refine List.mem_cons_of_mem _ ?_) | (refine List.mem_append.mpr (Or.inl ?_)) | fail "MineMemD")))
  k_with "call builtin:ascii" => (refine ascii_dat hf hv ?_; intro t9 k9)
  k_with "call builtin:repr" => (refine repr_dat hf hv ?_; intro t9 k9)
  k_with "call type:str" => (refine str_dat hf hv ?_; intro t9 k9)
  cases f <;> cases hy
  all_goals (refine wpAny_call ?_; k_dflt ktr_enter; k_steps)
  all_goals (refine hret _ [] _ _ (by assumption) (tl0 (by assumption)) off0 ?_)
  all_goals first
    | (rw [List.append_nil]; exact hv) | exact DatIn.str _ _
    | fail "conv"

def keyD : Dat → Nat × Int × Str
  | .bool b => (1, if b then 1 else 0, Str.empty)
  | .int i => (2, i, Str.empty)
  | .str x => (3, 0, x)
  | _ => (0, 0, Str.empty)
def ofKey (k : Nat × Int × Str) : Dat := if k.1 = 1 then .bool (k.2.1 == 1) else if k.1 = 2 then .int k.2.1 else if k.1 = 3 then .str k.2.2 else .none
theorem ofKey_key {d : Dat} (h : flat d = true) : ofKey (keyD d) = d := by
  cases d with
  | bool b => cases b <;> rfl
  | none => rfl
  | int i => rfl
  | str x => rfl
  | _ => exact absurd h Bool.false_ne_true
def fEq (a b : Dat) : Bool := flat a && flat b && keyD a == keyD b
theorem fEq_eq {a b : Dat} (h : fEq a b = true) : a = b := by
  obtain ⟨h1, h2⟩ := Bool.and_eq_true_iff.mp h
  obtain ⟨h3, h4⟩ := Bool.and_eq_true_iff.mp h1
  rw [← ofKey_key h3, ← ofKey_key h4, eq_of_beq h2]
def drawnAll : List Code3 := ((List.range 9).map Int.ofNat).flatMap (fun r => [(r, 0, 0), (r, 1, 0), (r, 2, 0)]) ++ [(9, 0, 0), (9, 1, 0), (9, 0, 1), (9, 1, 1)]
def forms : List Form := [.no, .s, .r, .a]
def smallD : Dat → Bool
  | .int i => decide (i.natAbs ≤ 100) && ascOk (Str.ofString (toString i))
  | .str x => ascOk (reprText x)
  | .none => true
  | .bool _ => true
  | _ => false
theorem small_ok {d : Dat} (h : smallD d = true) : convOk d := by
  cases d with
  | none => trivial
  | bool b => trivial
  | int i => exact ⟨of_decide_eq_true (Bool.and_eq_true_iff.mp h).1, (Bool.and_eq_true_iff.mp h).2⟩
  | str x => exact h
  | _ => exact absurd h Bool.false_ne_true
theorem conv_all : (drawnAll.all fun c => forms.all fun f => fEq (convS f (thingS c)) (thingS (afterS c f))) = true := by decide +kernel
theorem small_all : (drawnAll.all fun c => smallD (thingS c)) = true := by decide +kernel
/-- == of flat data -/
def eqI (i : Int) : Dat → Bool
  | .bool b => i == (if b then 1 else 0)
  | .int j => i == j
  | _ => false
def eqS (x : Str) : Dat → Bool
  | .str y => x == y
  | _ => false
def eqN : Dat → Bool
  | .none => true
  | _ => false
def eqB (a : Bool) : Dat → Bool
  | .bool b => a == b
  | .int j => (if a then 1 else 0) == j
  | _ => false
def eqF : Dat → Dat → Bool
  | .bool a => eqB a
  | .int i => eqI i
  | .str x => eqS x
  | .none => eqN
  | _ => fun _ => false
theorem eqF_eq {a b : Dat} (ha : flat a = true) (hb : flat b = true) : PyData.eqv (kqdP a) (kqdP b) = eqF a b := by
  cases a <;> first | (exact absurd ha Bool.false_ne_true) | (cases b <;> first | (exact absurd hb Bool.false_ne_true) | rfl)
def afterAll : List Code3 := drawnAll.flatMap fun c => forms.map (afterS c)
theorem drawn_key : ∀ r ∈ List.range 10, ∀ p ∈ List.range 2, ∀ b ∈ List.range 2, (if ((r : Nat) : Int) = 9 then (((r : Nat) : Int), ((p : Nat) : Int), ((b : Nat) : Int)) else (((r : Nat) : Int), ((p : Nat) : Int) + ((b : Nat) : Int), 0) : Code3) ∈ drawnAll := by decide +kernel
theorem drawn_mem (x : Int) : drawnS x ∈ drawnAll := by
  have h1 : 0 ≤ Int.fmod x 10 ∧ Int.fmod x 10 < 10 := ⟨Int.fmod_nonneg_of_pos _ (by decide), Int.fmod_lt_of_pos _ (by decide)⟩
  have h2 : 0 ≤ Int.fmod (Int.fdiv x 10) 2 ∧ Int.fmod (Int.fdiv x 10) 2 < 2 := ⟨Int.fmod_nonneg_of_pos _ (by decide), Int.fmod_lt_of_pos _ (by decide)⟩
  have h3 : 0 ≤ Int.fmod (Int.fdiv x 20) 2 ∧ Int.fmod (Int.fdiv x 20) 2 < 2 := ⟨Int.fmod_nonneg_of_pos _ (by decide), Int.fmod_lt_of_pos _ (by decide)⟩
  unfold drawnS
  generalize Int.fmod x 10 = r at *
  generalize Int.fmod (Int.fdiv x 10) 2 = p at *
  generalize Int.fmod (Int.fdiv x 20) 2 = b at *
  obtain ⟨r, rfl⟩ := Int.eq_ofNat_of_zero_le h1.1
  obtain ⟨p, rfl⟩ := Int.eq_ofNat_of_zero_le h2.1
  obtain ⟨b, rfl⟩ := Int.eq_ofNat_of_zero_le h3.1
  exact drawn_key r (List.mem_range.mpr (by omega)) p (List.mem_range.mpr (by omega)) b (List.mem_range.mpr (by omega))
/-- the same codes, each once -/
def afterD : List Code3 := ((List.range 9).map Int.ofNat).flatMap (fun r => [(r, 0, 0), (r, 1, 0), (r, 2, 0), (r, 3, 0)]) ++ [(9, 0, 0), (9, 1, 0), (9, 2, 0), (9, 0, 1), (9, 1, 1), (9, 0, 2), (9, 1, 2)]
theorem after_all : (afterAll.all fun a => decide (a ∈ afterD)) = true := by decide +kernel
theorem after_D {a : Code3} (h : a ∈ afterAll) : a ∈ afterD := of_decide_eq_true (List.all_eq_true.mp after_all a h)
theorem eq_all : (afterD.all fun a => afterD.all fun b => eqF (thingS a) (thingS b) == decide (numS a = numS b)) = true := by decide +kernel
theorem flat_all : (afterAll.all fun c => flat (thingS c) && okD 8 (thingS c)) = true := by decide +kernel
theorem shape_all : (drawnAll.all fun c => decide (0 ≤ c.1 ∧ c.1 ≤ 9 ∧ 0 ≤ c.2.1 ∧ 0 ≤ c.2.2 ∧ c.2.1 + c.2.2 ≤ 2)) = true := by decide +kernel
theorem shape_after : (afterAll.all fun c => decide (0 ≤ c.1 ∧ c.1 ≤ 9 ∧ 0 ≤ c.2.1 ∧ 0 ≤ c.2.2 ∧ c.2.1 + c.2.2 ≤ 3)) = true := by decide +kernel

theorem drawn_shape {c : Code3} (h : c ∈ drawnAll) : 0 ≤ c.1 ∧ c.1 ≤ 9 ∧ 0 ≤ c.2.1 ∧ 0 ≤ c.2.2 ∧ c.2.1 + c.2.2 ≤ 2 := of_decide_eq_true (List.all_eq_true.mp shape_all c h)
theorem forms_mem (f : Form) : f ∈ forms := by cases f <;> simp [forms]
theorem after_mem {c : Code3} (f : Form) (h : c ∈ drawnAll) : afterS c f ∈ afterAll := List.mem_flatMap.mpr ⟨c, h, List.mem_map.mpr ⟨f, forms_mem f, rfl⟩⟩
theorem after_shp {c : Code3} (h : c ∈ afterAll) : 0 ≤ c.1 ∧ c.1 ≤ 9 ∧ 0 ≤ c.2.1 ∧ 0 ≤ c.2.2 ∧ c.2.1 + c.2.2 ≤ 3 := of_decide_eq_true (List.all_eq_true.mp shape_after c h)
theorem conv_eq {c : Code3} (f : Form) (h : c ∈ drawnAll) : convS f (thingS c) = thingS (afterS c f) := fEq_eq (List.all_eq_true.mp (List.all_eq_true.mp conv_all c h) f (forms_mem f))
theorem conv_ok {c : Code3} (h : c ∈ drawnAll) : convOk (thingS c) := small_ok (List.all_eq_true.mp small_all c h)
theorem thing_fl {c : Code3} (h : c ∈ afterAll) : flat (thingS c) = true := (Bool.and_eq_true_iff.mp (List.all_eq_true.mp flat_all c h)).1
theorem thing_okD {c : Code3} (h : c ∈ afterAll) : okD 8 (thingS c) = true := (Bool.and_eq_true_iff.mp (List.all_eq_true.mp flat_all c h)).2
theorem drawn_after {c : Code3} (h : c ∈ drawnAll) : c ∈ afterAll := by
  have q := after_mem .no h
  exact q
theorem eq_thing {a b : Code3} (ha : a ∈ afterAll) (hb : b ∈ afterAll) : PyData.eqv (kqdP (thingS a)) (kqdP (thingS b)) = decide (numS a = numS b) := by
  rw [eqF_eq (thing_fl ha) (thing_fl hb)]
  exact eq_of_beq (List.all_eq_true.mp (List.all_eq_true.mp eq_all a (after_D ha)) b (after_D hb))
theorem flat_things {cs : List Code3} (hc : ∀ c ∈ cs, c ∈ drawnAll) (f : Form) : ∀ d ∈ cs.map (fun c => thingS (afterS c f)), flat d = true := by
  intro d hd
  obtain ⟨c, hm, rfl⟩ := List.mem_map.mp hd
  exact thing_fl (after_mem f (hc c hm))
theorem eqF_self {d : Dat} (h : flat d = true) : eqF d d = true := by
  cases d with
  | none => rfl
  | bool b => exact beq_self_eq_true b
  | int i => exact beq_self_eq_true i
  | str x => exact beq_self_eq_true x
  | _ => exact absurd h Bool.false_ne_true
theorem isB_eqF : ∀ d : Dat, (PyData.eqv (kqdP (.bool (isB d))) (kqdP (.bool (isB d)))) = true := by
  intro d
  rw [eqF_eq rfl rfl]
  exact eqF_self rfl
theorem typed_self (ds : List Dat) (h : ∀ d ∈ ds, flat d = true) : PyData.eqv (kqdP (.list (ds.map typD))) (kqdP (.list (ds.map typD))) = true := by
  simp only [kqdP, PyData.eqv]
  induction ds with
  | nil => simp [kqdPs, PyData.eqvAll]
  | cons d ds ih =>
    have h1 := h d (.head _)
    have h2 := ih fun e he => h e (.tail _ he)
    simp only [List.map_cons, kqdPs, PyData.eqvAll, h2, Bool.and_true, typD, kqdP, PyData.eqv]
    rw [eqF_eq h1 h1, eqF_self h1]
    simp
theorem typed_okD (ds : List Dat) (h : ∀ d ∈ ds, okD 8 d = true) (hf : ∀ d ∈ ds, flat d = true) : okD 8 (.list (ds.map typD)) = true := by
  simp only [okD, List.all_map, List.all_eq_true, Function.comp]
  intro d hd
  have h1 := h d hd
  have h2 := hf d hd
  cases d <;> simp_all [okD, typD, flat]
theorem datAll_flat {L L' : List (Addr × Obj)} {ds : List Dat} : ∀ {vs : List Value}, DatAll L vs ds → (∀ d ∈ ds, flat d = true) → DatAll L' vs ds := by
  induction ds with
  | nil => intro vs D _; cases D; exact .nil
  | cons d ds ih =>
    intro vs D hf
    cases D with
    | cons h1 h2 => exact .cons (datIn_flat h1 (hf _ (.head _))) (ih h2 fun d hd => hf d (.tail _ hd))
theorem okD_things {cs : List Code3} (hc : ∀ c ∈ cs, c ∈ drawnAll) (f : Form) : ∀ d ∈ cs.map (fun c => thingS (afterS c f)), okD 8 d = true := by
  intro d hd
  obtain ⟨c, hm, rfl⟩ := List.mem_map.mp hd
  exact thing_okD (after_mem f (hc c hm))
theorem m2_other {m : Str → Option Value} {x a b : Str} {u v : Option Value} {w : Value} (h : m x = some w) (h1 : x ≠ a) (h2 : x ≠ b) : (fun z => if z = a then u else (fun z => if z = b then v else m z) z) x = some w := by
  simp only [h1, h2, if_false, h]

def rowD (cs : List Code3) (f : Form) : Dat := .tuple [.list (cs.map fun c => thingS (afterS c f)), .list (cs.map fun c => codeD (numS (afterS c f)))]
def rowsD (cs : List Code3) : Dat := .list (forms.map (rowD cs))
theorem ints_pick {vs : List Value} {ns : List Int} (h : IntsAre vs ns) (is : List Nat) : IntsAre (is.filterMap (vs.toArray[·]?)) (is.filterMap (ns[·]?)) := by
  have get : ∀ {vs : List Value} {ns : List Int}, IntsAre vs ns → ∀ i : Nat, (vs[i]? = none ∧ ns[i]? = none) ∨ ∃ n t, vs[i]? = some (.int n t) ∧ ns[i]? = some n := by
    intro vs ns h
    induction h with
    | nil => intro i; exact .inl ⟨rfl, rfl⟩
    | cons n t _ ih =>
      intro i
      cases i with
      | zero => exact .inr ⟨n, t, rfl, rfl⟩
      | succ i => simpa using ih i
  induction is with
  | nil => exact .nil
  | cons i is ih =>
    rcases get h i with ⟨h1, h2⟩ | ⟨n, t, h1, h2⟩
    · rw [List.filterMap_cons_none (by simpa using h1), List.filterMap_cons_none h2]; exact ih
    · rw [List.filterMap_cons_some (b := .int n t) (by simpa using h1), List.filterMap_cons_some h2]; exact .cons n t ih
theorem slice_ints {vs : List Value} {ns : List Int} (h : IntsAre vs ns) (a : Int) : ∃ ms, IntsAre (slicePick vs.toArray (some a) (some 10) (some 2)).toList ms ∧ ms.length ≤ 5 := by
  refine ⟨_, by unfold slicePick; exact ints_pick h _, ?_⟩
  refine Nat.le_trans (List.length_filterMap_le _ _) ?_
  have h1 : 0 ≤ (sliceBounds (some a) (some 10) (some 2) vs.toArray.size).1 := by
    simp only [sliceBounds, Option.getD_some]
    split <;> simp <;> omega
  have h2 : (sliceBounds (some a) (some 10) (some 2) vs.toArray.size).2.1 ≤ 10 := by
    simp only [sliceBounds, Option.getD_some]
    simp
    omega
  have h3 : (sliceBounds (some a) (some 10) (some 2) vs.toArray.size).2.2 = 2 := rfl
  rw [h3]
  generalize (sliceBounds (some a) (some 10) (some 2) vs.toArray.size).1 = x at *
  generalize (sliceBounds (some a) (some 10) (some 2) vs.toArray.size).2.1 = y at *
  simp only [sliceRange, List.length_map, List.length_range]
  rw [if_pos (by decide)]
  split <;> omega
theorem kqdPs_map : ∀ ds : List Dat, kqdPs ds = ds.map kqdP
  | [] => rfl
  | d :: ds => by rw [kqdPs, kqdPs_map ds]; rfl
theorem kept_things {c : Code3} {os : List Code3} (hc : c ∈ drawnAll) (ho : ∀ o ∈ os, o ∈ drawnAll) (f g : Form) :
    keptD (os.map fun o => thingS (afterS o g)) (thingS (afterS c f)) = !((kqdPs (os.map fun o => codeD (numS (afterS o g)))).any fun y => PyData.eqv y (kqdP (codeD (numS (afterS c f))))) := by
  unfold keptD
  congr 1
  rw [kqdPs_map, kqdPs_map, List.map_map, List.map_map, List.any_map, List.any_map]
  apply Bool.eq_iff_iff.mpr
  simp only [List.any_eq_true, Function.comp]
  constructor
  · rintro ⟨o, h1, h2⟩
    refine ⟨o, h1, ?_⟩
    rw [eq_thing (after_mem g (ho o h1)) (after_mem f hc)] at h2
    rw [codeD_eqv]; exact h2
  · rintro ⟨o, h1, h2⟩
    refine ⟨o, h1, ?_⟩
    rw [codeD_eqv] at h2
    rw [eq_thing (after_mem g (ho o h1)) (after_mem f hc)]; exact h2
theorem due_eq {α β : Type} (cs : List α) (d0 : α) (q : α → Bool) (T : α → β) : ((List.range cs.length).filter (fun k => q (cs.getD k d0))).map (fun k => T (cs.getD k d0)) = (cs.filter q).map T := by
  have e : (List.range cs.length).map (fun k => cs.getD k d0) = cs := by
    apply List.ext_getElem
    · simp
    · intro i h1 h2
      simp [List.getD, h2]
  have e2 : (cs.filter q).map T = (((List.range cs.length).map (fun k => cs.getD k d0)).filter q).map T := by rw [e]
  rw [e2, List.filter_map, List.map_map]
  rfl
/-- what _filter leaves of the one row by the other -/
def toldS (cs : List Code3) (f : Form) : List Dat := cs.map fun c => thingS (afterS c f)
def numsS (cs : List Code3) (f : Form) : List Dat := cs.map fun c => codeD (numS (afterS c f))
def keptI (cs os : List Code3) (f g : Form) (k : Nat) : Bool := !((kqdPs (numsS os g)).any fun y => PyData.eqv y (kqdP (codeD (numS (afterS (cs.getD k (0, 0, 0)) f)))))
theorem due_told {cs os : List Code3} (hc : ∀ c ∈ cs, c ∈ drawnAll) (ho : ∀ o ∈ os, o ∈ drawnAll) (f g : Form) :
    ((List.range cs.length).filter (keptI cs os f g)).map (fun k => thingS (afterS (cs.getD k (0, 0, 0)) f)) = (toldS cs f).filter (keptD (toldS os g)) := by
  unfold keptI
  rw [due_eq cs (0, 0, 0) (fun c => !((kqdPs (numsS os g)).any fun y => PyData.eqv y (kqdP (codeD (numS (afterS c f)))))) (fun c => thingS (afterS c f))]
  unfold toldS numsS
  rw [List.filter_map]
  congr 1
  refine List.filter_congr fun c h => ?_
  exact (kept_things (hc c h) ho f g).symm
theorem rows_nil (cs : List Code3) : PyData.eqv (kqdP (rowsD cs)) (kqdP (.list [])) = false := by
  simp [rowsD, forms, kqdP, kqdPs, PyData.eqv, PyData.eqvAll]
theorem rows_okD {cs : List Code3} (hc : ∀ c ∈ cs, c ∈ drawnAll) : okD 8 (rowsD cs) = true := by
  have h2 : ∀ f, okD 6 (.list (cs.map fun c => thingS (afterS c f))) = true := by
    intro f
    simp only [okD, List.all_eq_true]
    intro d hd
    have h2 := flat_things hc f d hd
    have h3 := okD_things hc f d hd
    cases d <;> simp_all [okD, flat]
  have h3 : ∀ f, okD 6 (.list (cs.map fun c => codeD (numS (afterS c f)))) = true := by
    intro f
    simp only [okD, List.all_eq_true, List.mem_map]
    rintro d ⟨c, _, rfl⟩
    rfl
  simp only [rowsD, okD, List.all_eq_true, List.mem_map]
  rintro d ⟨f, _, rfl⟩
  simp only [rowD, okD, List.all_cons, List.all_nil, Bool.and_true, Bool.and_eq_true]
  exact ⟨h2 f, h3 f⟩

def RowsInv (cs : List Code3) (S aa cF D7 cM x1 d1 : Addr) (tO oM : Obj) (news sub : List (Addr × Obj)) (vals : List Value) (_i : Nat) (m' : Str → Option Value) (led : List (Addr × Obj)) : Prop :=
  ∃ (todo done : List Form) (rows : List Value) (c : Nat) (oF : Obj) (tl : List (Addr × Obj)) (vF : Option Value), led = (S, lstO rows c) :: (cF, oF) :: (news ++ tl) ∧ done ++ todo = forms ∧ DatAll [] vals (todo.map Form.dat) ∧ m' "rows" = some (.ref S) ∧ m' "codes" = some (.ref aa) ∧ oF.data = .cell vF ∧
    (D7, tO) ∈ tl ∧ (cM, oM) ∈ tl ∧ (x1, instObj 102 d1) ∈ tl ∧ (d1, dictOf [] 0) ∈ tl ∧ (∀ p ∈ (S, lstO rows c) :: (news ++ tl), p.1 ≠ cF) ∧ (∀ p ∈ news ++ tl, p.1 ≠ S) ∧ (∀ q ∈ news, ∀ p ∈ tl, p.1 ≠ q.1) ∧ DatAll (sub ++ tl) rows (done.map (rowD cs))
theorem rows_tel {w : World} {mean : ExcName → Option Value} {mg mb : Str → Option Value} (cs : List Code3) (hc : ∀ c ∈ cs, c ∈ drawnAll) (hlen : cs.length ≤ 6) : Tel PySem.Challenge.rw_ij0164_01.row.prog w (hd.heap_39 w.params) hd.view_39 (looseW hd.view_39 [Str.ofString "filterfalse"]) mean mg mb 195 200 (fun L vs => DatAll L vs [.list (cs.map codeD)]) (fun L r => DatIn L r (rowsD cs)) := by
  k_fill
  w_top off
  unfold Tel
  intro dp un gd cn cs' a ccd cl outer A₀ base h₀ L m news sub s vs Q E B F X N T hk hs hR hd hu hret
  obtain ⟨_, rfl, h1⟩ := inv1 hR
  obtain ⟨aa, vv, nn, rfl, hm, hD⟩ := invL h1
  have hm' := hs _ hm
  k_with_none
  k_with "MineMem" => (first | (with_reducible assumption) | (with_reducible exact List.mem_cons_self) | ((with_reducible refine List.mem_append.mpr (Or.inl ?_)); walk_at "MineMem") | ((with_reducible refine List.mem_append.mpr (Or.inr ?_)); walk_at "MineMem") | ((with_reducible refine List.mem_cons_of_mem _ ?_); walk_at "MineMem"))
  k_with "eval ListComp" => ((k_here; k_dflt (refine LCg.ListComp_U (F₀ := by k_asm) (by with_unfolding_all rfl) (by decide) (by rfl) (by decide) (by rfl) ?_)))
  k_with "MineItem" => (first | exact DatIn.none | exact DatIn.bool _ | exact DatIn.int _ _ | exact DatIn.str _ _ | assumption | (refine DatIn.mono ?_ (by assumption); (intro p hp; (try simp only [List.mem_append, List.mem_cons] at hp ⊢); grind)))
  k_with "MineLt" => (first | assumption | exact allLt_of (by assumption) | tbn_find | (simp only [AllLt, and_true]; tbn_conj))
  k_with "MineTup" => ((refine DatIn.tuple (List.mem_append.mpr (Or.inr (List.Mem.head _))) ?_; repeat' (first | exact DatAll.nil | refine DatAll.cons ?_ ?_ | walk_at "MineItem")))
  k_with "TurnEnd" => ((refine TurnEnd.intro [(_, _)] (by assumption) (tl1 (by assumption)) (off1 (by walk_at "MineLt")) (by walk_at "MineTup")))
  k_with "MineSub" => (first | exact fun _ h => h | assumption | (intro p hp; first | (exact List.Mem.tail _ (by assumption)) | (simp only [List.mem_append, List.mem_cons, List.not_mem_nil, or_false] at hp ⊢; grind)))
  k_with "subscriptTail" => ((k_here; (with_reducible show wpAny _ _ (subscriptTail _ _ (Value.ref _) (Value.int _ _)) _ _ _); k_dflt (refine' item_tupleT ?mwt ?mwa ?mwb ?mwc ?mwd ?_; (case mwt => exact News.isTup (by k_asm) (by walk_at "MineMem")); (case mwa => decide); (case mwb => decide); (case mwc => rfl); (case mwd => rfl); k_whole)))
  k_with "MineRoom" => (first | assumption | ktr_room | (dsimp only [ktrTop, Around.deeper, Around.in1] at *; simp only [recursionLimit] at *; omega))
  k_with "MineUnits" => (first | ktr_units | (have hcL9 := cLine_is; dsimp only [ktrTop, Around.deeper, Around.in1] at *; omega))
  k_with "And" => (((with_reducible show WrapAt _ _ ∧ _); k_dflt (refine ⟨WrapAt.of (by k_asm) (by walk_at "MineMemD"), ?_⟩); (try dsimp only [List.nil_append, List.cons_append])))
  k_with "eval Name" => ((k_here; (with_reducible show wpAny _ _ (eval (Expr.Name _ _) (compEnvC _ _ _ _)) _ _ _); k_dflt (first | refine LCgL.ld_own (by k_asm) (by walk_at "MineMem") (by assumption) (by assumption) ?_ | refine LCgL.ld_global (by k_asm) (by k_asm) (by k_asm) (by k_is) ?_ | refine LCgL.ld_built (by k_asm) (by k_asm) (by k_asm) (by k_is) (by boot_by_name) (by decide) ?_)))
  k_with "MineMemD" => ((repeat' (first | assumption | exact List.mem_cons_self | (refine List.mem_cons_of_mem _ ?_) | (refine List.mem_append.mpr (Or.inl ?_)) | fail "MineMemD")))
  k_with "storeName" => ((with_reducible show wpAny _ _ (storeName _ (Str.ofString "maker") _) _ _ _); refine Hid.out ?_)
  k_with "exec For Name Tuple cons nil" => (refine Hid.out ?_)
  refine wpAny_call ?_
  k_dflt (refine' code_defC ?mc1 ?mc2 ?mc3 ?mc4 ?mc5 ?mcA ?mcF ?mcK ?mc6 ?mc7 ?mc8 ?mc9 ?mcB ?mcD ?_ ?mcc2 ?mcc3 ?mcc4; (case mcA => first | exact rfl | assumption); (case mcF => exact rfl); (case mcK => first | exact rfl | assumption); (case mc1 => k_asm); (case mc2 => k_asm); (case mc3 => k_asm); (case mc4 => k_asm); (case mc5 => k_asm); (case mc6 => k_is); (case mc7 => k_is); (case mc8 => walk_at "MineRoom"); (case mc9 => first | exact BindsTo.of_eq rfl | exact binds_K (by k_in) rfl (by k_is) rfl rfl rfl); (case mcB => exact rfl); (case mcD => decide +kernel); (case mcc2 => exact rfl); (case mcc3 => exact rfl); (case mcc4 => exact rfl); k_whole; intro _ _ _ _ _ _ _ N9 Y9 _ _ _ l1; (try k_lt l1); k_cells Y9; (try simp only [List.cons_append, List.nil_append] at N9); (try dsimp only); (try k_fold))
  k_steps
  rename_i g1 L1 h5 tk5 FG1 B1 X1 T1 oF oM dF dM x1 d1 h1 F1 N1 l2 l3
  unfold Hid
  refine store_cellN ((x1, instObj 102 d1) :: (d1, dictOf [] 0) :: (L1 + 1 + 1, oF) :: news) F1 N1 (by rfl) (.tail _ (.tail _ (.tail _ (.head _)))) dM ?_ ?_ ?_ (by rfl) (by rfl)
  · intro p hp
    simp only [List.mem_cons] at hp ⊢
    grind
  · intro p hp
    have q := l1 p
    simp only [List.mem_cons] at hp
    rcases hp with rfl | rfl | rfl | hp
    · exact Nat.ne_of_gt (Nat.lt_trans l2.2.1 l3)
    · exact Nat.ne_of_gt l2.2.1
    · exact Nat.ne_of_gt (Nat.lt_succ_self _)
    · have q := l1 p hp; exact Nat.ne_of_lt (Nat.lt_succ_of_lt q)
  intro h2 oM2 F2 N2 dM2
  k_steps
  unfold Hid
  refine seq_for (by k_asm) rfl ?_
  k_steps
  rename_i S6 h6 l6 h7 D7 h8 F8 N8 l8
  obtain ⟨l6a, l6b, l6c, l6d, l6e⟩ := l6
  obtain ⟨l8a, l8b, l8c, l8d, l8e, l8f⟩ := l8
  obtain ⟨l2a, l2b, l2c⟩ := l2
  refine ⟨true, D7, _, _, { cls := .type "tuple", data := .seq #[.none, .str "s" tk, .str "r" (tk + 1), .str "a" (tk + 1 + 1)] }, _, (S6, lstO [] 0) :: (L1 + 1 + 1, oF) :: (news ++ [(D7, { cls := .type "tuple", data := .seq #[.none, .str "s" tk, .str "r" (tk + 1), .str "a" (tk + 1 + 1)] }), (L1 + 1, oM2), (x1, instObj 102 d1), (d1, dictOf [] 0)]), rfl, rfl, rfl, F8, newsIn N8 ?_, ?_, ?_⟩
  · intro p hp
    rcases List.mem_cons.mp hp with rfl | hp
    · exact .tail _ (.head _)
    rcases List.mem_cons.mp hp with rfl | hp
    · exact .tail _ (.tail _ (.tail _ (.tail _ (.tail _ (.head _)))))
    rcases List.mem_append.mp hp with hp | hp
    · exact .tail _ (.tail _ (.tail _ (.tail _ (.tail _ (.tail _ hp)))))
    simp only [List.mem_cons, List.not_mem_nil, or_false] at hp ⊢
    grind
  · exact .tail _ (.tail _ (List.mem_append.mpr (.inr (.head _))))
  refine seq_gen (Inv := RowsInv cs S6 aa (L1 + 1 + 1) D7 (L1 + 1) x1 d1 { cls := .type "tuple", data := .seq #[.none, .str "s" tk, .str "r" (tk + 1), .str "a" (tk + 1 + 1)] } oM2 news sub) ?_ ?_
  · refine ⟨forms, [], [], 0, oF, _, _, rfl, rfl, .cons .none (.cons (.str _ _) (.cons (.str _ _) (.cons (.str _ _) .nil))), by rfl, by rfl, dF, .head _, .tail _ (.head _), .tail _ (.tail _ (.head _)), .tail _ (.tail _ (.tail _ (.head _))), ?_, ?_, ?_, .nil⟩
    · intro p hp
      rcases List.mem_cons.mp hp with rfl | hp
      · exact Nat.ne_of_gt l6d
      rcases List.mem_append.mp hp with hp | hp
      · exact Nat.ne_of_lt (Nat.lt_succ_of_lt (Nat.lt_succ_of_lt (l1 p hp)))
      simp only [List.mem_cons, List.not_mem_nil, or_false] at hp
      rcases hp with rfl | rfl | rfl | rfl
      · exact Nat.ne_of_gt l8e
      · exact Nat.ne_of_lt (Nat.lt_succ_self _)
      · exact Nat.ne_of_gt (Nat.lt_trans l2a l3)
      · exact Nat.ne_of_gt l2a
    · intro p hp
      rcases List.mem_append.mp hp with hp | hp
      · exact Nat.ne_of_lt (ktn_ltOf l6e p hp)
      simp only [List.mem_cons, List.not_mem_nil, or_false] at hp
      rcases hp with rfl | rfl | rfl | rfl
      · exact Nat.ne_of_gt l8a
      · exact Nat.ne_of_lt l6a
      · exact Nat.ne_of_lt l6b
      · exact Nat.ne_of_lt l6c
    · intro q hq p hp
      have h1 := l1 q hq
      have h2 := ktn_ltOf l2c q hq
      simp only [List.mem_cons, List.not_mem_nil, or_false] at hp
      rcases hp with rfl | rfl | rfl | rfl
      · exact Nat.ne_of_gt (ktn_ltOf l8f q hq)
      · exact Nat.ne_of_gt (Nat.lt_succ_of_lt h1)
      · exact Nat.ne_of_gt (Nat.lt_trans h2 l3)
      · exact Nat.ne_of_gt h2
  clear F8 N8
  rintro vals i m' led ⟨todo, done, rows, c, oF', tl, vF, rfl, hdone, hvals, hr, hcd, dF', g1', g2, g3, g4, g6, g7, g8, hD'⟩
  induction todo generalizing vals done rows c oF' tl vF i m' with
  | nil =>
    cases hvals
    intro h10 tk10 F10 N10
    k_with "eval Name" => ((with_reducible show wpAny _ _ (eval (Expr.Name _ _) (envOfC _ _ _ _ _)) _ _ _); k_dflt (refine' nameX_L ?F ?v ?_ ?a ?b; (case F => k_asm); (case a => rfl); (case b => rfl); (case v => first | exact hr | exact hcd); k_whole))
    k_steps
    rename_i kF kN Tc kX
    rw [List.append_nil] at hdone
    subst hdone
    refine hret _ ((S6, lstO rows c) :: tl) _ _ kF ?_ ?_ (DatIn.list (List.mem_append.mpr (.inr (.head _))) (DatAll.mono ?_ hD'))
    · intro p hp
      refine kN p ?_
      rcases List.mem_append.mp hp with hp | hp
      · exact .tail _ (.tail _ (List.mem_append.mpr (.inl hp)))
      · rcases List.mem_cons.mp hp with rfl | hp
        · exact .head _
        · exact .tail _ (.tail _ (List.mem_append.mpr (.inr hp)))
    · intro q hq p hp
      rcases List.mem_cons.mp hp with rfl | hp
      · exact fun e => g7 q (List.mem_append.mpr (.inl hq)) e.symm
      · exact g8 q hq p hp
    · intro p hp
      rcases List.mem_append.mp hp with hp | hp
      · exact List.mem_append.mpr (.inl hp)
      · exact List.mem_append.mpr (.inr (.tail _ hp))
  | cons f todo ih =>
    cases hvals with
    | cons hvF hvals =>
    intro I oI h10 tk10 hI F10 N10 offI
    refine wpAny_assign_Name ?_
    refine store_cellN ((I, oI) :: (S6, lstO rows c) :: (news ++ tl)) F10 N10 (by rfl) (.tail _ (.tail _ (.head _))) dF' ?_ ?_ ?_ (by rfl) (by rfl)
    · intro p hp
      simp only [List.mem_cons] at hp ⊢
      grind
    · intro p hp
      rcases List.mem_cons.mp hp with rfl | hp
      · exact fun e => offI _ (.tail _ (.head _)) e.symm
      · exact g6 p hp
    intro h11 oF2 F11 N11 dF2
    rename_i vF vsF
    obtain ⟨bs, hbs⟩ : ∃ b, b = (L1 + 1 + 1, oF2) :: (I, oI) :: (S6, lstO rows c) :: (news ++ tl) := ⟨_, rfl⟩
    rw [← hbs] at N11
    have hsub1 : ∀ p ∈ sub, p ∈ bs := fun p hp => by rw [hbs]; exact .tail _ (.tail _ (.tail _ (List.mem_append.mpr (.inl (hs p hp)))))
    have hmem1 : (aa, W.listOf vv.toArray nn) ∈ bs := by rw [hbs]; exact .tail _ (.tail _ (.tail _ (List.mem_append.mpr (.inl hm'))))
    have hmemM : (L1 + 1, oM2) ∈ bs := by rw [hbs]; exact .tail _ (.tail _ (.tail _ (List.mem_append.mpr (.inr g2))))
    have hmemF : (L1 + 1 + 1, oF2) ∈ bs := by rw [hbs]; exact .head _
    have hmemX : (x1, instObj 102 d1) ∈ bs := by rw [hbs]; exact .tail _ (.tail _ (.tail _ (List.mem_append.mpr (.inr g3))))
    have hmemD : (d1, dictOf [] 0) ∈ bs := by rw [hbs]; exact .tail _ (.tail _ (.tail _ (List.mem_append.mpr (.inr g4))))
    clear F10 N10
    k_with_none
    k_with "MineMem" => (first | (with_reducible assumption) | (with_reducible exact List.mem_cons_self) | ((with_reducible refine List.mem_append.mpr (Or.inl ?_)); walk_at "MineMem") | ((with_reducible refine List.mem_append.mpr (Or.inr ?_)); walk_at "MineMem") | ((with_reducible refine List.mem_cons_of_mem _ ?_); walk_at "MineMem"))
    k_with "eval ListComp" => ((k_here; k_dflt (refine LCg.ListComp_U (F₀ := by k_asm) (by with_unfolding_all rfl) (by decide) (by rfl) (by decide) (by rfl) ?_)))
    k_with "MineItem" => (first | exact DatIn.none | exact DatIn.bool _ | exact DatIn.int _ _ | exact DatIn.str _ _ | assumption | (refine DatIn.mono ?_ (by assumption); (intro p hp; (try simp only [List.mem_append, List.mem_cons] at hp ⊢); grind)))
    k_with "MineLt" => (first | assumption | exact allLt_of (by assumption) | tbn_find | (simp only [AllLt, and_true]; tbn_conj))
    k_with "MineTup" => ((refine DatIn.tuple (List.mem_append.mpr (Or.inr (List.Mem.head _))) ?_; repeat' (first | exact DatAll.nil | refine DatAll.cons ?_ ?_ | walk_at "MineItem")))
    k_with "TurnEnd" => ((refine TurnEnd.intro [(_, _)] (by assumption) (tl1 (by assumption)) (off1 (by walk_at "MineLt")) (by walk_at "MineTup")))
    k_with "MineSub" => (first | exact fun _ h => h | assumption | (intro p hp; first | (exact List.Mem.tail _ (by assumption)) | (simp only [List.mem_append, List.mem_cons, List.not_mem_nil, or_false] at hp ⊢; grind)))
    k_with "subscriptTail" => ((k_here; (with_reducible show wpAny _ _ (subscriptTail _ _ (Value.ref _) (Value.int _ _)) _ _ _); k_dflt (refine' item_tupleT ?mwt ?mwa ?mwb ?mwc ?mwd ?_; (case mwt => exact News.isTup (by k_asm) (by walk_at "MineMem")); (case mwa => decide); (case mwb => decide); (case mwc => rfl); (case mwd => rfl); k_whole)))
    k_with "MineRoom" => (first | assumption | ktr_room | (dsimp only [ktrTop, Around.deeper, Around.in1] at *; simp only [recursionLimit] at *; omega))
    k_with "MineUnits" => (first | ktr_units | (have hcL9 := cLine_is; dsimp only [ktrTop, Around.deeper, Around.in1] at *; omega))
    k_with "And" => (((with_reducible show WrapAt _ _ ∧ _); k_dflt (refine ⟨WrapAt.of (by k_asm) (by walk_at "MineMemD"), ?_⟩); (try dsimp only [List.nil_append, List.cons_append])))
    k_with "eval Name" => ((k_here; (with_reducible show wpAny _ _ (eval (Expr.Name _ _) (compEnvC _ _ _ _)) _ _ _); k_dflt (first | refine LCgL.ld_own (by k_asm) (by walk_at "MineMem") (by assumption) (by assumption) ?_ | refine LCgL.ld_global (by k_asm) (by k_asm) (by k_asm) (by k_is) ?_ | refine LCgL.ld_built (by k_asm) (by k_asm) (by k_asm) (by k_is) (by boot_by_name) (by decide) ?_)))
    k_with "MineMemD" => ((repeat' (first | assumption | exact List.mem_cons_self | (refine List.mem_cons_of_mem _ ?_) | (refine List.mem_append.mpr (Or.inl ?_)) | fail "MineMemD")))
    k_with "eval Name" => ((with_reducible show wpAny _ _ (eval (Expr.Name _ _) (envOfC _ _ _ _ _)) _ _ _); k_dflt (refine' nameX_L ?F ?v ?_ ?a ?b; (case F => k_asm); (case a => rfl); (case b => rfl); (case v => first | exact hr | exact hcd); k_whole))
    k_steps
    refine src_U (sub := sub) (enc := codeD) (dec := fun c => thingS (afterS c f)) (ds := cs) (by rfl) F11 N11 hmem1 hsub1 hD (by omega) ?turn ?fin
    case' turn =>
      intro v d I' oI' C oC D m₂ ys tl' h tk' E' hd' hv hC hx F' N'
      have hdd := hc d hd'
      have hsh := drawn_shape hdd
      k_with_none
      k_with "MineMem" => (first | (with_reducible assumption) | (with_reducible exact List.mem_cons_self) | ((with_reducible refine List.mem_append.mpr (Or.inl ?_)); walk_at "MineMem") | ((with_reducible refine List.mem_append.mpr (Or.inr ?_)); walk_at "MineMem") | ((with_reducible refine List.mem_cons_of_mem _ ?_); walk_at "MineMem"))
      k_with "eval ListComp" => ((k_here; k_dflt (refine LCg.ListComp_U (F₀ := by k_asm) (by with_unfolding_all rfl) (by decide) (by rfl) (by decide) (by rfl) ?_)))
      k_with "MineItem" => (first | exact DatIn.none | exact DatIn.bool _ | exact DatIn.int _ _ | exact DatIn.str _ _ | assumption | (refine DatIn.mono ?_ (by assumption); (intro p hp; (try simp only [List.mem_append, List.mem_cons] at hp ⊢); grind)))
      k_with "MineLt" => (first | assumption | exact allLt_of (by assumption) | tbn_find | (simp only [AllLt, and_true]; tbn_conj))
      k_with "MineTup" => ((refine DatIn.tuple (List.mem_append.mpr (Or.inr (List.Mem.head _))) ?_; repeat' (first | exact DatAll.nil | refine DatAll.cons ?_ ?_ | walk_at "MineItem")))
      k_with "TurnEnd" => ((refine TurnEnd.intro [(_, _)] (by assumption) (tl1 (by assumption)) (off1 (by walk_at "MineLt")) (by walk_at "MineTup")))
      k_with "MineSub" => (first | exact fun _ h => h | assumption | (intro p hp; first | (exact List.Mem.tail _ (by assumption)) | (simp only [List.mem_append, List.mem_cons, List.not_mem_nil, or_false] at hp ⊢; grind)))
      k_with "subscriptTail" => ((k_here; (with_reducible show wpAny _ _ (subscriptTail _ _ (Value.ref _) (Value.int _ _)) _ _ _); k_dflt (refine' item_tupleT ?mwt ?mwa ?mwb ?mwc ?mwd ?_; (case mwt => exact News.isTup (by k_asm) (by walk_at "MineMem")); (case mwa => decide); (case mwb => decide); (case mwc => rfl); (case mwd => rfl); k_whole)))
      k_with "MineRoom" => (first | assumption | ktr_room | (dsimp only [ktrTop, Around.deeper, Around.in1] at *; simp only [recursionLimit] at *; omega))
      k_with "MineUnits" => (first | ktr_units | (have hcL9 := cLine_is; dsimp only [ktrTop, Around.deeper, Around.in1] at *; omega))
      k_with "And" => (((with_reducible show WrapAt _ _ ∧ _); k_dflt (refine ⟨WrapAt.of (by k_asm) (by walk_at "MineMemD"), ?_⟩); (try dsimp only [List.nil_append, List.cons_append])))
      k_with "eval Name" => ((k_here; (with_reducible show wpAny _ _ (eval (Expr.Name _ _) (compEnvC _ _ _ _)) _ _ _); k_dflt (first | refine LCgL.ld_own (by k_asm) (by walk_at "MineMem") (by assumption) (by assumption) ?_ | refine LCgL.ld_global (by k_asm) (by k_asm) (by k_asm) (by k_is) ?_ | refine LCgL.ld_built (by k_asm) (by k_asm) (by k_asm) (by k_is) (by boot_by_name) (by decide) ?_)))
      k_with "MineMemD" => ((repeat' (first | assumption | exact List.mem_cons_self | (refine List.mem_cons_of_mem _ ?_) | (refine List.mem_append.mpr (Or.inl ?_)) | fail "MineMemD")))
      refine MethodCall_ ?_
      refine lcf_cell (by k_asm) (by rfl) (by walk_at "MineMem") dM2 ?_ (by rfl) (by rfl)
      refine' method_inst ?k1 ?k2 ?k3 ?k4 ?k5 ?k6 ?k7 ?_
      (case k1 => k_asm); (case k2 => k_asm); (case k3 => exact InstAt.of_news (x := x1) (C := 102) (dx := d1) (by k_asm) (by walk_at "MineMem") (by walk_at "MineMem"))
      (case k4 => k_is); (case k5 => k_is); (case k6 => k_is); (case k7 => k_get)
      dsimp only
      refine' callWith_K ?k1 (keepIn_fn ?k2) ?_
      (case k1 => k_asm); (case k2 => k_is)
      refine spliced_more ?_
      refine Call_ ?_
      k_with "eval Name" => ((with_reducible show wpAny _ _ (eval (Expr.Name _ _) (compEnvC _ _ _ _)) _ _ _); k_dflt (refine lcf_cell (by k_asm) (by rfl) (by walk_at "MineMem") dF2 ?_ (by rfl) (by rfl)))
      k_with "call ref" => (refine Hid.out ?_)
      k_steps
      unfold Hid
      refine' tel_use (sub := sub ++ tl') (thing_tel d hsh.1 hsh.2.1 hsh.2.2.1 hsh.2.2.2.1 (by omega)) (by k_asm) (by k_asm) (by k_asm) (by k_asm) (by k_asm) (by first | exact rfl | assumption) ?_ (DatAll.cons hv .nil) (by walk_at "MineRoom") (by walk_at "MineUnits") ?_
      · intro p hp
        refine .tail _ (.tail _ (.tail _ ?_))
        rcases List.mem_append.mp hp with hp | hp
        · exact List.mem_append.mpr (.inl (hsub1 p hp))
        · exact List.mem_append.mpr (.inr hp)
      intro r9 tl9 h9 tk9 F9 N9 o9 D9
      k_steps
      refine' tel_use (sub := []) (conv_tel (thingS d) f (conv_ok hdd)) (by k_asm) (by k_asm) (by k_asm) (by k_asm) (by k_asm) (by first | exact rfl | assumption) (fun _ h => nomatch h) ⟨_, _, _, rfl, datIn_flat D9 (thing_fl (drawn_after hdd)), hvF⟩ (by walk_at "MineRoom") (by walk_at "MineUnits") ?_
      intro r8 tl8 h8 tk8 F8 N8 o8 D8
      rw [List.append_assoc] at N8
      refine ⟨h8, tk8, tl9 ++ tl8, rfl, F8, N8, ?_, ?_⟩
      · intro q hq p hp
        rcases List.mem_append.mp hp with hp | hp
        · exact o9 q hq p hp
        · exact o8 q (List.mem_append.mpr (.inl hq)) p hp
      · rw [conv_eq f hdd] at D8
        exact datIn_flat D8 (thing_fl (after_mem f hdd))
    intro g12 ys tl12 o12 D12
    clear F11 N11
    intro S1 h12 tk12 F12 N12 l12
    have o12' := offIn (o := LCg.lst ys) o12 (off1_lt l12)
    obtain ⟨e1, he1⟩ : ∃ e, e = (S1, LCg.lst ys) :: tl12 := ⟨_, rfl⟩
    have N12' : News g1 L1 h12 (bs ++ e1) := newsIn N12 (by subst he1; intro p hp; exact in1 p hp)
    rw [← he1] at o12'
    have hS1 : (S1, LCg.lst ys) ∈ e1 := by subst he1; exact .head _
    have D12' : DatAll (sub ++ e1) ys (cs.map fun c => thingS (afterS c f)) := DatAll.mono (by subst he1; exact in2) D12
    have hmem1e : (aa, W.listOf vv.toArray nn) ∈ bs ++ e1 := List.mem_append.mpr (.inl hmem1)
    have hsub1e : ∀ p ∈ sub, p ∈ bs ++ e1 := fun p hp => List.mem_append.mpr (.inl (hsub1 p hp))
    clear N12 D12 o12 l12
    k_with_none
    k_with "MineMem" => (first | (with_reducible assumption) | (with_reducible exact List.mem_cons_self) | ((with_reducible refine List.mem_append.mpr (Or.inl ?_)); walk_at "MineMem") | ((with_reducible refine List.mem_append.mpr (Or.inr ?_)); walk_at "MineMem") | ((with_reducible refine List.mem_cons_of_mem _ ?_); walk_at "MineMem"))
    k_with "eval ListComp" => ((k_here; k_dflt (refine LCg.ListComp_U (F₀ := by k_asm) (by with_unfolding_all rfl) (by decide) (by rfl) (by decide) (by rfl) ?_)))
    k_with "MineItem" => (first | exact DatIn.none | exact DatIn.bool _ | exact DatIn.int _ _ | exact DatIn.str _ _ | assumption | (refine DatIn.mono ?_ (by assumption); (intro p hp; (try simp only [List.mem_append, List.mem_cons] at hp ⊢); grind)))
    k_with "MineLt" => (first | assumption | exact allLt_of (by assumption) | tbn_find | (simp only [AllLt, and_true]; tbn_conj))
    k_with "MineTup" => ((refine DatIn.tuple (List.mem_append.mpr (Or.inr (List.Mem.head _))) ?_; repeat' (first | exact DatAll.nil | refine DatAll.cons ?_ ?_ | walk_at "MineItem")))
    k_with "TurnEnd" => ((refine TurnEnd.intro [(_, _)] (by assumption) (tl1 (by assumption)) (off1 (by walk_at "MineLt")) (by walk_at "MineTup")))
    k_with "MineSub" => (first | exact fun _ h => h | assumption | (intro p hp; first | (exact List.Mem.tail _ (by assumption)) | (simp only [List.mem_append, List.mem_cons, List.not_mem_nil, or_false] at hp ⊢; grind)))
    k_with "subscriptTail" => ((k_here; (with_reducible show wpAny _ _ (subscriptTail _ _ (Value.ref _) (Value.int _ _)) _ _ _); k_dflt (refine' item_tupleT ?mwt ?mwa ?mwb ?mwc ?mwd ?_; (case mwt => exact News.isTup (by k_asm) (by walk_at "MineMem")); (case mwa => decide); (case mwb => decide); (case mwc => rfl); (case mwd => rfl); k_whole)))
    k_with "MineRoom" => (first | assumption | ktr_room | (dsimp only [ktrTop, Around.deeper, Around.in1] at *; simp only [recursionLimit] at *; omega))
    k_with "MineUnits" => (first | ktr_units | (have hcL9 := cLine_is; dsimp only [ktrTop, Around.deeper, Around.in1] at *; omega))
    k_with "And" => (((with_reducible show WrapAt _ _ ∧ _); k_dflt (refine ⟨WrapAt.of (by k_asm) (by walk_at "MineMemD"), ?_⟩); (try dsimp only [List.nil_append, List.cons_append])))
    k_with "eval Name" => ((k_here; (with_reducible show wpAny _ _ (eval (Expr.Name _ _) (compEnvC _ _ _ _)) _ _ _); k_dflt (first | refine LCgL.ld_own (by k_asm) (by walk_at "MineMem") (by assumption) (by assumption) ?_ | refine LCgL.ld_global (by k_asm) (by k_asm) (by k_asm) (by k_is) ?_ | refine LCgL.ld_built (by k_asm) (by k_asm) (by k_asm) (by k_is) (by boot_by_name) (by decide) ?_)))
    k_with "MineMemD" => ((repeat' (first | assumption | exact List.mem_cons_self | (refine List.mem_cons_of_mem _ ?_) | (refine List.mem_append.mpr (Or.inl ?_)) | fail "MineMemD")))
    k_with "eval Name" => ((with_reducible show wpAny _ _ (eval (Expr.Name _ _) (envOfC _ _ _ _ _)) _ _ _); k_dflt (refine' nameX_L ?F ?v ?_ ?a ?b; (case F => k_asm); (case a => rfl); (case b => rfl); (case v => first | exact hr | exact hcd); k_whole))
    k_steps
    refine src_U (sub := sub) (enc := codeD) (dec := fun c => codeD (afterS c f)) (ds := cs) (by rfl) F12 N12' hmem1e hsub1e hD (by omega) ?turn2 ?fin2
    case' turn2 =>
      clear F12 N12'
      intro v d I' oI' C oC D m₂ ys' tl' h tk' E' hd' hv hC hx F' N'
      k_with_none
      k_with "MineMem" => (first | (with_reducible assumption) | (with_reducible exact List.mem_cons_self) | ((with_reducible refine List.mem_append.mpr (Or.inl ?_)); walk_at "MineMem") | ((with_reducible refine List.mem_append.mpr (Or.inr ?_)); walk_at "MineMem") | ((with_reducible refine List.mem_cons_of_mem _ ?_); walk_at "MineMem"))
      k_with "eval ListComp" => ((k_here; k_dflt (refine LCg.ListComp_U (F₀ := by k_asm) (by with_unfolding_all rfl) (by decide) (by rfl) (by decide) (by rfl) ?_)))
      k_with "MineItem" => (first | exact DatIn.none | exact DatIn.bool _ | exact DatIn.int _ _ | exact DatIn.str _ _ | assumption | (refine DatIn.mono ?_ (by assumption); (intro p hp; (try simp only [List.mem_append, List.mem_cons] at hp ⊢); grind)))
      k_with "MineLt" => (first | assumption | exact allLt_of (by assumption) | tbn_find | (simp only [AllLt, and_true]; tbn_conj))
      k_with "MineTup" => ((refine DatIn.tuple (List.mem_append.mpr (Or.inr (List.Mem.head _))) ?_; repeat' (first | exact DatAll.nil | refine DatAll.cons ?_ ?_ | walk_at "MineItem")))
      k_with "TurnEnd" => ((refine TurnEnd.intro [(_, _)] (by assumption) (tl1 (by assumption)) (off1 (by walk_at "MineLt")) (by walk_at "MineTup")))
      k_with "MineSub" => (first | exact fun _ h => h | assumption | (intro p hp; first | (exact List.Mem.tail _ (by assumption)) | (simp only [List.mem_append, List.mem_cons, List.not_mem_nil, or_false] at hp ⊢; grind)))
      k_with "subscriptTail" => ((k_here; (with_reducible show wpAny _ _ (subscriptTail _ _ (Value.ref _) (Value.int _ _)) _ _ _); k_dflt (refine' item_tupleT ?mwt ?mwa ?mwb ?mwc ?mwd ?_; (case mwt => exact News.isTup (by k_asm) (by walk_at "MineMem")); (case mwa => decide); (case mwb => decide); (case mwc => rfl); (case mwd => rfl); k_whole)))
      k_with "MineRoom" => (first | assumption | ktr_room | (dsimp only [ktrTop, Around.deeper, Around.in1] at *; simp only [recursionLimit] at *; omega))
      k_with "MineUnits" => (first | ktr_units | (have hcL9 := cLine_is; dsimp only [ktrTop, Around.deeper, Around.in1] at *; omega))
      k_with "And" => (((with_reducible show WrapAt _ _ ∧ _); k_dflt (refine ⟨WrapAt.of (by k_asm) (by walk_at "MineMemD"), ?_⟩); (try dsimp only [List.nil_append, List.cons_append])))
      k_with "eval Name" => ((k_here; (with_reducible show wpAny _ _ (eval (Expr.Name _ _) (compEnvC _ _ _ _)) _ _ _); k_dflt (first | refine LCgL.ld_own (by k_asm) (by walk_at "MineMem") (by assumption) (by assumption) ?_ | refine LCgL.ld_global (by k_asm) (by k_asm) (by k_asm) (by k_is) ?_ | refine LCgL.ld_built (by k_asm) (by k_asm) (by k_asm) (by k_is) (by boot_by_name) (by decide) ?_)))
      k_with "MineMemD" => ((repeat' (first | assumption | exact List.mem_cons_self | (refine List.mem_cons_of_mem _ ?_) | (refine List.mem_append.mpr (Or.inl ?_)) | fail "MineMemD")))
      k_with "eval Name" => ((with_reducible show wpAny _ _ (eval (Expr.Name _ _) (compEnvC _ _ _ _)) _ _ _); k_dflt (refine lcf_cell (by k_asm) (by rfl) (by walk_at "MineMem") dF2 ?_ (by rfl) (by rfl)))
      k_with "call ref" => (refine Hid.out ?_)
      k_steps
      unfold Hid
      refine' tel_use (sub := sub ++ tl') (after_tel d f) (by k_asm) (by k_asm) (by k_asm) (by k_asm) (by k_asm) (by first | exact rfl | assumption) ?_ (DatAll.cons hv (DatAll.cons (datIn_flat hvF (by cases f <;> rfl)) .nil)) (by walk_at "MineRoom") (by walk_at "MineUnits") ?_
      · intro p hp
        refine .tail _ (.tail _ (.tail _ ?_))
        rcases List.mem_append.mp hp with hp | hp
        · exact List.mem_append.mpr (.inl (hsub1e p hp))
        · exact List.mem_append.mpr (.inr hp)
      intro r8 tl8 h8 tk8 F8 N8 o8 D8
      exact ⟨h8, tk8, tl8, rfl, F8, N8, o8, D8⟩
    case' fin2 =>
    intro g13 ys2 tl13 o13 D13
    clear F12 N12'
    intro S2 h13 tk13 F13 N13 l13
    have o13' := offIn (o := LCg.lst ys2) o13 (off1_lt l13)
    obtain ⟨e2, he2⟩ : ∃ e, e = (S2, LCg.lst ys2) :: tl13 := ⟨_, rfl⟩
    have N13' : News g1 L1 h13 (bs ++ e1 ++ e2) := newsIn N13 (by subst he2; intro p hp; exact in1 p hp)
    rw [← he2] at o13'
    have hS2 : (S2, LCg.lst ys2) ∈ e2 := by subst he2; exact .head _
    have D13' : DatAll (sub ++ e2) ys2 (cs.map fun c => codeD (afterS c f)) := DatAll.mono (by subst he2; exact in2) D13
    clear N13 D13 o13 l13
    k_with_none
    k_with "MineMem" => (first | (with_reducible assumption) | (with_reducible exact List.mem_cons_self) | ((with_reducible refine List.mem_append.mpr (Or.inl ?_)); walk_at "MineMem") | ((with_reducible refine List.mem_append.mpr (Or.inr ?_)); walk_at "MineMem") | ((with_reducible refine List.mem_cons_of_mem _ ?_); walk_at "MineMem"))
    k_with "eval ListComp" => ((k_here; k_dflt (refine LCg.ListComp_U (F₀ := by k_asm) (by with_unfolding_all rfl) (by decide) (by rfl) (by decide) (by rfl) ?_)))
    k_with "MineItem" => (first | exact DatIn.none | exact DatIn.bool _ | exact DatIn.int _ _ | exact DatIn.str _ _ | assumption | (refine DatIn.mono ?_ (by assumption); (intro p hp; (try simp only [List.mem_append, List.mem_cons] at hp ⊢); grind)))
    k_with "MineLt" => (first | assumption | exact allLt_of (by assumption) | tbn_find | (simp only [AllLt, and_true]; tbn_conj))
    k_with "MineTup" => ((refine DatIn.tuple (List.mem_append.mpr (Or.inr (List.Mem.head _))) ?_; repeat' (first | exact DatAll.nil | refine DatAll.cons ?_ ?_ | walk_at "MineItem")))
    k_with "TurnEnd" => ((refine TurnEnd.intro [(_, _)] (by assumption) (tl1 (by assumption)) (off1 (by walk_at "MineLt")) (by walk_at "MineTup")))
    k_with "MineSub" => (first | exact fun _ h => h | assumption | (intro p hp; first | (exact List.Mem.tail _ (by assumption)) | (simp only [List.mem_append, List.mem_cons, List.not_mem_nil, or_false] at hp ⊢; grind)))
    k_with "subscriptTail" => ((k_here; (with_reducible show wpAny _ _ (subscriptTail _ _ (Value.ref _) (Value.int _ _)) _ _ _); k_dflt (refine' item_tupleT ?mwt ?mwa ?mwb ?mwc ?mwd ?_; (case mwt => exact News.isTup (by k_asm) (by walk_at "MineMem")); (case mwa => decide); (case mwb => decide); (case mwc => rfl); (case mwd => rfl); k_whole)))
    k_with "MineRoom" => (first | assumption | ktr_room | (dsimp only [ktrTop, Around.deeper, Around.in1] at *; simp only [recursionLimit] at *; omega))
    k_with "MineUnits" => (first | ktr_units | (have hcL9 := cLine_is; dsimp only [ktrTop, Around.deeper, Around.in1] at *; omega))
    k_with "And" => (((with_reducible show WrapAt _ _ ∧ _); k_dflt (refine ⟨WrapAt.of (by k_asm) (by walk_at "MineMemD"), ?_⟩); (try dsimp only [List.nil_append, List.cons_append])))
    k_with "eval Name" => ((k_here; (with_reducible show wpAny _ _ (eval (Expr.Name _ _) (compEnvC _ _ _ _)) _ _ _); k_dflt (first | refine LCgL.ld_own (by k_asm) (by walk_at "MineMem") (by assumption) (by assumption) ?_ | refine LCgL.ld_global (by k_asm) (by k_asm) (by k_asm) (by k_is) ?_ | refine LCgL.ld_built (by k_asm) (by k_asm) (by k_asm) (by k_is) (by boot_by_name) (by decide) ?_)))
    k_with "MineMemD" => ((repeat' (first | assumption | exact List.mem_cons_self | (refine List.mem_cons_of_mem _ ?_) | (refine List.mem_append.mpr (Or.inl ?_)) | fail "MineMemD")))
    k_with "call ref" => (refine Hid.out ?_)
    k_steps
    unfold Hid
    have hcl : (cs.map fun c => thingS (afterS c f)).length ≤ 64 := by rw [List.length_map]; omega
    have hsub14 : ∀ p ∈ sub ++ e1, p ∈ bs ++ e1 ++ e2 := fun p hp => List.mem_append.mpr (.inl ((List.mem_append.mp hp).elim (fun hp => hsub1e p hp) fun hp => List.mem_append.mpr (.inr hp)))
    refine' tel_use (sub := sub ++ e1) (typed_tel (cs.map fun c => thingS (afterS c f)) (flat_things hc f) hcl) (by k_asm) (by k_asm) (by k_asm) (by k_asm) (by k_asm) (by first | exact rfl | assumption) hsub14 (DatAll.cons (DatIn.list (List.mem_append.mpr (.inr hS1)) D12') .nil) (by walk_at "MineRoom") (by walk_at "MineUnits") ?_
    intro r14 e3 h14 tk14 F14 N14 o14 D14
    clear F13 N13'
    have hS2e : (S2, LCg.lst ys2) ∈ bs ++ e1 ++ e2 ++ e3 := List.mem_append.mpr (.inl (List.mem_append.mpr (.inr hS2)))
    have hsub15 : ∀ p ∈ sub ++ e2, p ∈ bs ++ e1 ++ e2 ++ e3 := fun p hp => (List.mem_append.mp hp).elim (fun hp => List.mem_append.mpr (.inl (List.mem_append.mpr (.inl (hsub1e p hp))))) fun hp => List.mem_append.mpr (.inl (List.mem_append.mpr (.inr hp)))
    have D13m : DatAll (sub ++ e2) ys2 ((cs.map fun c => afterS c f).map codeD) := by rw [List.map_map]; exact D13'
    k_with_none
    k_with "MineMem" => (first | (with_reducible assumption) | (with_reducible exact List.mem_cons_self) | ((with_reducible refine List.mem_append.mpr (Or.inl ?_)); walk_at "MineMem") | ((with_reducible refine List.mem_append.mpr (Or.inr ?_)); walk_at "MineMem") | ((with_reducible refine List.mem_cons_of_mem _ ?_); walk_at "MineMem"))
    k_with "eval ListComp" => ((k_here; k_dflt (refine LCg.ListComp_U (F₀ := by k_asm) (by with_unfolding_all rfl) (by decide) (by rfl) (by decide) (by rfl) ?_)))
    k_with "MineItem" => (first | exact DatIn.none | exact DatIn.bool _ | exact DatIn.int _ _ | exact DatIn.str _ _ | assumption | (refine DatIn.mono ?_ (by assumption); (intro p hp; (try simp only [List.mem_append, List.mem_cons] at hp ⊢); grind)))
    k_with "MineLt" => (first | assumption | exact allLt_of (by assumption) | tbn_find | (simp only [AllLt, and_true]; tbn_conj))
    k_with "MineTup" => ((refine DatIn.tuple (List.mem_append.mpr (Or.inr (List.Mem.head _))) ?_; repeat' (first | exact DatAll.nil | refine DatAll.cons ?_ ?_ | walk_at "MineItem")))
    k_with "TurnEnd" => ((refine TurnEnd.intro [(_, _)] (by assumption) (tl1 (by assumption)) (off1 (by walk_at "MineLt")) (by walk_at "MineTup")))
    k_with "MineSub" => (first | exact fun _ h => h | assumption | (intro p hp; first | (exact List.Mem.tail _ (by assumption)) | (simp only [List.mem_append, List.mem_cons, List.not_mem_nil, or_false] at hp ⊢; grind)))
    k_with "subscriptTail" => ((k_here; (with_reducible show wpAny _ _ (subscriptTail _ _ (Value.ref _) (Value.int _ _)) _ _ _); k_dflt (refine' item_tupleT ?mwt ?mwa ?mwb ?mwc ?mwd ?_; (case mwt => exact News.isTup (by k_asm) (by walk_at "MineMem")); (case mwa => decide); (case mwb => decide); (case mwc => rfl); (case mwd => rfl); k_whole)))
    k_with "MineRoom" => (first | assumption | ktr_room | (dsimp only [ktrTop, Around.deeper, Around.in1] at *; simp only [recursionLimit] at *; omega))
    k_with "MineUnits" => (first | ktr_units | (have hcL9 := cLine_is; dsimp only [ktrTop, Around.deeper, Around.in1] at *; omega))
    k_with "And" => (((with_reducible show WrapAt _ _ ∧ _); k_dflt (refine ⟨WrapAt.of (by k_asm) (by walk_at "MineMemD"), ?_⟩); (try dsimp only [List.nil_append, List.cons_append])))
    k_with "eval Name" => ((k_here; (with_reducible show wpAny _ _ (eval (Expr.Name _ _) (compEnvC _ _ _ _)) _ _ _); k_dflt (first | refine LCgL.ld_own (by k_asm) (by walk_at "MineMem") (by assumption) (by assumption) ?_ | refine LCgL.ld_global (by k_asm) (by k_asm) (by k_asm) (by k_is) ?_ | refine LCgL.ld_built (by k_asm) (by k_asm) (by k_asm) (by k_is) (by boot_by_name) (by decide) ?_)))
    k_with "MineMemD" => ((repeat' (first | assumption | exact List.mem_cons_self | (refine List.mem_cons_of_mem _ ?_) | (refine List.mem_append.mpr (Or.inl ?_)) | fail "MineMemD")))
    k_steps
    refine src_U (sub := sub ++ e2) (enc := codeD) (dec := thingS) (ds := cs.map fun c => afterS c f) (by rfl) F14 N14 hS2e hsub15 D13m (by rw [List.length_map]; omega) ?turn3 ?fin3
    case' turn3 =>
      clear F14 N14
      intro v d I' oI' C oC D m₂ ys' tl' h tk' E' hd' hv hC hx F' N'
      have hda : d ∈ afterAll := (by
        obtain ⟨c', hc', rfl⟩ := List.mem_map.mp hd'
        exact after_mem f (hc c' hc'))
      have hsh := after_shp hda
      k_with_none
      k_with "MineMem" => (first | (with_reducible assumption) | (with_reducible exact List.mem_cons_self) | ((with_reducible refine List.mem_append.mpr (Or.inl ?_)); walk_at "MineMem") | ((with_reducible refine List.mem_append.mpr (Or.inr ?_)); walk_at "MineMem") | ((with_reducible refine List.mem_cons_of_mem _ ?_); walk_at "MineMem"))
      k_with "eval ListComp" => ((k_here; k_dflt (refine LCg.ListComp_U (F₀ := by k_asm) (by with_unfolding_all rfl) (by decide) (by rfl) (by decide) (by rfl) ?_)))
      k_with "MineItem" => (first | exact DatIn.none | exact DatIn.bool _ | exact DatIn.int _ _ | exact DatIn.str _ _ | assumption | (refine DatIn.mono ?_ (by assumption); (intro p hp; (try simp only [List.mem_append, List.mem_cons] at hp ⊢); grind)))
      k_with "MineLt" => (first | assumption | exact allLt_of (by assumption) | tbn_find | (simp only [AllLt, and_true]; tbn_conj))
      k_with "MineTup" => ((refine DatIn.tuple (List.mem_append.mpr (Or.inr (List.Mem.head _))) ?_; repeat' (first | exact DatAll.nil | refine DatAll.cons ?_ ?_ | walk_at "MineItem")))
      k_with "TurnEnd" => ((refine TurnEnd.intro [(_, _)] (by assumption) (tl1 (by assumption)) (off1 (by walk_at "MineLt")) (by walk_at "MineTup")))
      k_with "MineSub" => (first | exact fun _ h => h | assumption | (intro p hp; first | (exact List.Mem.tail _ (by assumption)) | (simp only [List.mem_append, List.mem_cons, List.not_mem_nil, or_false] at hp ⊢; grind)))
      k_with "subscriptTail" => ((k_here; (with_reducible show wpAny _ _ (subscriptTail _ _ (Value.ref _) (Value.int _ _)) _ _ _); k_dflt (refine' item_tupleT ?mwt ?mwa ?mwb ?mwc ?mwd ?_; (case mwt => exact News.isTup (by k_asm) (by walk_at "MineMem")); (case mwa => decide); (case mwb => decide); (case mwc => rfl); (case mwd => rfl); k_whole)))
      k_with "MineRoom" => (first | assumption | ktr_room | (dsimp only [ktrTop, Around.deeper, Around.in1] at *; simp only [recursionLimit] at *; omega))
      k_with "MineUnits" => (first | ktr_units | (have hcL9 := cLine_is; dsimp only [ktrTop, Around.deeper, Around.in1] at *; omega))
      k_with "And" => (((with_reducible show WrapAt _ _ ∧ _); k_dflt (refine ⟨WrapAt.of (by k_asm) (by walk_at "MineMemD"), ?_⟩); (try dsimp only [List.nil_append, List.cons_append])))
      k_with "eval Name" => ((k_here; (with_reducible show wpAny _ _ (eval (Expr.Name _ _) (compEnvC _ _ _ _)) _ _ _); k_dflt (first | refine LCgL.ld_own (by k_asm) (by walk_at "MineMem") (by assumption) (by assumption) ?_ | refine LCgL.ld_global (by k_asm) (by k_asm) (by k_asm) (by k_is) ?_ | refine LCgL.ld_built (by k_asm) (by k_asm) (by k_asm) (by k_is) (by boot_by_name) (by decide) ?_)))
      k_with "MineMemD" => ((repeat' (first | assumption | exact List.mem_cons_self | (refine List.mem_cons_of_mem _ ?_) | (refine List.mem_append.mpr (Or.inl ?_)) | fail "MineMemD")))
      k_with "call ref" => (refine Hid.out ?_)
      k_steps
      unfold Hid
      refine' tel_use (sub := sub ++ e2 ++ tl') (thing_tel d hsh.1 hsh.2.1 hsh.2.2.1 hsh.2.2.2.1 hsh.2.2.2.2) (by k_asm) (by k_asm) (by k_asm) (by k_asm) (by k_asm) (by first | exact rfl | assumption) ?_ (DatAll.cons hv .nil) (by walk_at "MineRoom") (by walk_at "MineUnits") ?_
      · intro p hp
        refine .tail _ (.tail _ (.tail _ ?_))
        rcases List.mem_append.mp hp with hp | hp
        · exact List.mem_append.mpr (.inl (hsub15 p hp))
        · exact List.mem_append.mpr (.inr hp)
      intro r8 tl8 h8 tk8 F8 N8 o8 D8
      exact ⟨h8, tk8, tl8, rfl, F8, N8, o8, D8⟩
    case' fin3 =>
    intro g15 ys3 tl15 o15 D15
    clear F14 N14
    intro S3 h15 tk15 F15 N15 l15
    dsimp only
    have o15' := offIn (o := LCg.lst ys3) o15 (off1_lt l15)
    obtain ⟨e4, he4⟩ : ∃ e, e = (S3, LCg.lst ys3) :: tl15 := ⟨_, rfl⟩
    have N15' : News g1 L1 h15 (bs ++ e1 ++ e2 ++ e3 ++ e4) := newsIn N15 (by subst he4; intro p hp; exact in1 p hp)
    rw [← he4] at o15'
    have hS3 : (S3, LCg.lst ys3) ∈ e4 := by subst he4; exact .head _
    have D15' : DatAll e4 ys3 (cs.map fun c => thingS (afterS c f)) := datAll_flat (by rw [List.map_map] at D15; exact D15) (flat_things hc f)
    clear N15 D15 o15 l15
    k_with_none
    k_with "MineMem" => (first | (with_reducible assumption) | (with_reducible exact List.mem_cons_self) | ((with_reducible refine List.mem_append.mpr (Or.inl ?_)); walk_at "MineMem") | ((with_reducible refine List.mem_append.mpr (Or.inr ?_)); walk_at "MineMem") | ((with_reducible refine List.mem_cons_of_mem _ ?_); walk_at "MineMem"))
    k_with "eval ListComp" => ((k_here; k_dflt (refine LCg.ListComp_U (F₀ := by k_asm) (by with_unfolding_all rfl) (by decide) (by rfl) (by decide) (by rfl) ?_)))
    k_with "MineItem" => (first | exact DatIn.none | exact DatIn.bool _ | exact DatIn.int _ _ | exact DatIn.str _ _ | assumption | (refine DatIn.mono ?_ (by assumption); (intro p hp; (try simp only [List.mem_append, List.mem_cons] at hp ⊢); grind)))
    k_with "MineLt" => (first | assumption | exact allLt_of (by assumption) | tbn_find | (simp only [AllLt, and_true]; tbn_conj))
    k_with "MineTup" => ((refine DatIn.tuple (List.mem_append.mpr (Or.inr (List.Mem.head _))) ?_; repeat' (first | exact DatAll.nil | refine DatAll.cons ?_ ?_ | walk_at "MineItem")))
    k_with "TurnEnd" => ((refine TurnEnd.intro [(_, _)] (by assumption) (tl1 (by assumption)) (off1 (by walk_at "MineLt")) (by walk_at "MineTup")))
    k_with "MineSub" => (first | exact fun _ h => h | assumption | (intro p hp; first | (exact List.Mem.tail _ (by assumption)) | (simp only [List.mem_append, List.mem_cons, List.not_mem_nil, or_false] at hp ⊢; grind)))
    k_with "subscriptTail" => ((k_here; (with_reducible show wpAny _ _ (subscriptTail _ _ (Value.ref _) (Value.int _ _)) _ _ _); k_dflt (refine' item_tupleT ?mwt ?mwa ?mwb ?mwc ?mwd ?_; (case mwt => exact News.isTup (by k_asm) (by walk_at "MineMem")); (case mwa => decide); (case mwb => decide); (case mwc => rfl); (case mwd => rfl); k_whole)))
    k_with "MineRoom" => (first | assumption | ktr_room | (dsimp only [ktrTop, Around.deeper, Around.in1] at *; simp only [recursionLimit] at *; omega))
    k_with "MineUnits" => (first | ktr_units | (have hcL9 := cLine_is; dsimp only [ktrTop, Around.deeper, Around.in1] at *; omega))
    k_with "And" => (((with_reducible show WrapAt _ _ ∧ _); k_dflt (refine ⟨WrapAt.of (by k_asm) (by walk_at "MineMemD"), ?_⟩); (try dsimp only [List.nil_append, List.cons_append])))
    k_with "eval Name" => ((k_here; (with_reducible show wpAny _ _ (eval (Expr.Name _ _) (compEnvC _ _ _ _)) _ _ _); k_dflt (first | refine LCgL.ld_own (by k_asm) (by walk_at "MineMem") (by assumption) (by assumption) ?_ | refine LCgL.ld_global (by k_asm) (by k_asm) (by k_asm) (by k_is) ?_ | refine LCgL.ld_built (by k_asm) (by k_asm) (by k_asm) (by k_is) (by boot_by_name) (by decide) ?_)))
    k_with "MineMemD" => ((repeat' (first | assumption | exact List.mem_cons_self | (refine List.mem_cons_of_mem _ ?_) | (refine List.mem_append.mpr (Or.inl ?_)) | fail "MineMemD")))
    k_with "call ref" => (refine Hid.out ?_)
    k_steps
    unfold Hid
    refine' tel_use (sub := e4) (typed_tel (cs.map fun c => thingS (afterS c f)) (flat_things hc f) hcl) (by k_asm) (by k_asm) (by k_asm) (by k_asm) (by k_asm) (by first | exact rfl | assumption) (fun p hp => List.mem_append.mpr (.inr hp)) (DatAll.cons (DatIn.list hS3 D15') .nil) (by walk_at "MineRoom") (by walk_at "MineUnits") ?_
    intro r16 e5 h16 tk16 F16 N16 o16 D16
    clear F15 N15'
    dsimp only
    k_with_none
    k_with "MineMem" => (first | (with_reducible assumption) | (with_reducible exact List.mem_cons_self) | ((with_reducible refine List.mem_append.mpr (Or.inl ?_)); walk_at "MineMem") | ((with_reducible refine List.mem_append.mpr (Or.inr ?_)); walk_at "MineMem") | ((with_reducible refine List.mem_cons_of_mem _ ?_); walk_at "MineMem"))
    k_with "eval ListComp" => ((k_here; k_dflt (refine LCg.ListComp_U (F₀ := by k_asm) (by with_unfolding_all rfl) (by decide) (by rfl) (by decide) (by rfl) ?_)))
    k_with "MineItem" => (first | exact DatIn.none | exact DatIn.bool _ | exact DatIn.int _ _ | exact DatIn.str _ _ | assumption | (refine DatIn.mono ?_ (by assumption); (intro p hp; (try simp only [List.mem_append, List.mem_cons] at hp ⊢); grind)))
    k_with "MineLt" => (first | assumption | exact allLt_of (by assumption) | tbn_find | (simp only [AllLt, and_true]; tbn_conj))
    k_with "MineTup" => ((refine DatIn.tuple (List.mem_append.mpr (Or.inr (List.Mem.head _))) ?_; repeat' (first | exact DatAll.nil | refine DatAll.cons ?_ ?_ | walk_at "MineItem")))
    k_with "TurnEnd" => ((refine TurnEnd.intro [(_, _)] (by assumption) (tl1 (by assumption)) (off1 (by walk_at "MineLt")) (by walk_at "MineTup")))
    k_with "MineSub" => (first | exact fun _ h => h | assumption | (intro p hp; first | (exact List.Mem.tail _ (by assumption)) | (simp only [List.mem_append, List.mem_cons, List.not_mem_nil, or_false] at hp ⊢; grind)))
    k_with "subscriptTail" => ((k_here; (with_reducible show wpAny _ _ (subscriptTail _ _ (Value.ref _) (Value.int _ _)) _ _ _); k_dflt (refine' item_tupleT ?mwt ?mwa ?mwb ?mwc ?mwd ?_; (case mwt => exact News.isTup (by k_asm) (by walk_at "MineMem")); (case mwa => decide); (case mwb => decide); (case mwc => rfl); (case mwd => rfl); k_whole)))
    k_with "MineRoom" => (first | assumption | ktr_room | (dsimp only [ktrTop, Around.deeper, Around.in1] at *; simp only [recursionLimit] at *; omega))
    k_with "MineUnits" => (first | ktr_units | (have hcL9 := cLine_is; dsimp only [ktrTop, Around.deeper, Around.in1] at *; omega))
    k_with "And" => (((with_reducible show WrapAt _ _ ∧ _); k_dflt (refine ⟨WrapAt.of (by k_asm) (by walk_at "MineMemD"), ?_⟩); (try dsimp only [List.nil_append, List.cons_append])))
    k_with "eval Name" => ((k_here; (with_reducible show wpAny _ _ (eval (Expr.Name _ _) (compEnvC _ _ _ _)) _ _ _); k_dflt (first | refine LCgL.ld_own (by k_asm) (by walk_at "MineMem") (by assumption) (by assumption) ?_ | refine LCgL.ld_global (by k_asm) (by k_asm) (by k_asm) (by k_is) ?_ | refine LCgL.ld_built (by k_asm) (by k_asm) (by k_asm) (by k_is) (by boot_by_name) (by decide) ?_)))
    k_with "MineMemD" => ((repeat' (first | assumption | exact List.mem_cons_self | (refine List.mem_cons_of_mem _ ?_) | (refine List.mem_append.mpr (Or.inl ?_)) | fail "MineMemD")))
    k_with "compareOp NotEq" => (refine Hid.out ?_)
    k_steps
    unfold Hid
    have hokd : okD 8 (.list ((cs.map fun c => thingS (afterS c f)).map typD)) = true := typed_okD _ (okD_things hc f) (flat_things hc f)
    refine' d_ne N16 D14 ?sa D16 ?sb hokd hokd ?hu ?_
    case sa => intro p hp; simp only [List.mem_append] at hp ⊢; rcases hp with (hp | hp) | hp <;> first | (have := hsub1e p hp; simp only [List.mem_append] at this; grind) | grind
    case sb => intro p hp; simp only [List.mem_append] at hp ⊢; grind
    case hu => units_room
    rw [typed_self _ (flat_things hc f), Bool.not_true]
    k_with_none
    k_with "MineMem" => (first | (with_reducible assumption) | (with_reducible exact List.mem_cons_self) | ((with_reducible refine List.mem_append.mpr (Or.inl ?_)); walk_at "MineMem") | ((with_reducible refine List.mem_append.mpr (Or.inr ?_)); walk_at "MineMem") | ((with_reducible refine List.mem_cons_of_mem _ ?_); walk_at "MineMem"))
    k_with "eval ListComp" => ((k_here; k_dflt (refine LCg.ListComp_U (F₀ := by k_asm) (by with_unfolding_all rfl) (by decide) (by rfl) (by decide) (by rfl) ?_)))
    k_with "MineItem" => (first | exact DatIn.none | exact DatIn.bool _ | exact DatIn.int _ _ | exact DatIn.str _ _ | assumption | (refine DatIn.mono ?_ (by assumption); (intro p hp; (try simp only [List.mem_append, List.mem_cons] at hp ⊢); grind)))
    k_with "MineLt" => (first | assumption | exact allLt_of (by assumption) | tbn_find | (simp only [AllLt, and_true]; tbn_conj))
    k_with "MineTup" => ((refine DatIn.tuple (List.mem_append.mpr (Or.inr (List.Mem.head _))) ?_; repeat' (first | exact DatAll.nil | refine DatAll.cons ?_ ?_ | walk_at "MineItem")))
    k_with "TurnEnd" => ((refine TurnEnd.intro [(_, _)] (by assumption) (tl1 (by assumption)) (off1 (by walk_at "MineLt")) (by walk_at "MineTup")))
    k_with "MineSub" => (first | exact fun _ h => h | assumption | (intro p hp; first | (exact List.Mem.tail _ (by assumption)) | (simp only [List.mem_append, List.mem_cons, List.not_mem_nil, or_false] at hp ⊢; grind)))
    k_with "subscriptTail" => ((k_here; (with_reducible show wpAny _ _ (subscriptTail _ _ (Value.ref _) (Value.int _ _)) _ _ _); k_dflt (refine' item_tupleT ?mwt ?mwa ?mwb ?mwc ?mwd ?_; (case mwt => exact News.isTup (by k_asm) (by walk_at "MineMem")); (case mwa => decide); (case mwb => decide); (case mwc => rfl); (case mwd => rfl); k_whole)))
    k_with "MineRoom" => (first | assumption | ktr_room | (dsimp only [ktrTop, Around.deeper, Around.in1] at *; simp only [recursionLimit] at *; omega))
    k_with "MineUnits" => (first | ktr_units | (have hcL9 := cLine_is; dsimp only [ktrTop, Around.deeper, Around.in1] at *; omega))
    k_with "And" => (((with_reducible show WrapAt _ _ ∧ _); k_dflt (refine ⟨WrapAt.of (by k_asm) (by walk_at "MineMemD"), ?_⟩); (try dsimp only [List.nil_append, List.cons_append])))
    k_with "eval Name" => ((k_here; (with_reducible show wpAny _ _ (eval (Expr.Name _ _) (compEnvC _ _ _ _)) _ _ _); k_dflt (first | refine LCgL.ld_own (by k_asm) (by walk_at "MineMem") (by assumption) (by assumption) ?_ | refine LCgL.ld_global (by k_asm) (by k_asm) (by k_asm) (by k_is) ?_ | refine LCgL.ld_built (by k_asm) (by k_asm) (by k_asm) (by k_is) (by boot_by_name) (by decide) ?_)))
    k_with "MineMemD" => ((repeat' (first | assumption | exact List.mem_cons_self | (refine List.mem_cons_of_mem _ ?_) | (refine List.mem_append.mpr (Or.inl ?_)) | fail "MineMemD")))
    have hr2 : (fun z => if z = Str.ofString "after" then some (Value.ref S2) else (fun z => if z = Str.ofString "told" then some (Value.ref S1) else m' z) z) (Str.ofString "rows") = some (.ref S6) := m2_other hr (by decide) (by decide)
    have hcd2 : (fun z => if z = Str.ofString "after" then some (Value.ref S2) else (fun z => if z = Str.ofString "told" then some (Value.ref S1) else m' z) z) (Str.ofString "codes") = some (.ref aa) := m2_other hcd (by decide) (by decide)
    have hS6 : (S6, W.listOf rows.toArray c) ∈ bs := by rw [hbs]; exact .tail _ (.tail _ (.head _))
    k_with "eval Name" => ((with_reducible show wpAny _ _ (eval (Expr.Name _ _) (envOfC _ _ _ _ _)) _ _ _); k_dflt (refine' nameX_L ?F ?v ?_ ?a ?b; (case F => k_asm); (case a => rfl); (case b => rfl); (case v => first | exact hr2 | exact hcd2); k_whole))
    k_with "getMethod ref" => ((with_reducible show wpAny _ _ (getMethod (Value.ref _) (PySem.Str.ofString "append") _) _ _ _); k_dflt (refine' listMethod_K ?N ?m PySem.F.slot_list_append PySem.F.type_list_append ?_; (case N => k_asm); (case m => walk_at "MineMem")))
    k_steps
    have hF : Fr g1 L1 h16 (fun z => if z = Str.ofString "after" then some (Value.ref S2) else (fun z => if z = Str.ofString "told" then some (Value.ref S1) else m' z) z) := F16
    refine nameX_L hF hr2 ?_ rfl rfl
    k_steps
    have hS2f : (S2, LCg.lst ys2) ∈ bs ++ e1 ++ e2 ++ e3 ++ e4 ++ e5 := List.mem_append.mpr (.inl (List.mem_append.mpr (.inl hS2e)))
    have hsub16 : ∀ p ∈ sub ++ e2, p ∈ bs ++ e1 ++ e2 ++ e3 ++ e4 ++ e5 := fun p hp => List.mem_append.mpr (.inl (List.mem_append.mpr (.inl (hsub15 p hp))))
    refine src_U (sub := sub ++ e2) (enc := codeD) (dec := fun c => codeD (numS c)) (ds := cs.map fun c => afterS c f) (by rfl) F16 N16 hS2f hsub16 D13m (by rw [List.length_map]; omega) ?turn4 ?fin4
    case' turn4 =>
      clear hF F16 N16
      intro v d I' oI' C oC D m₂ ys' tl' h tk' E' hd' hv hC hx F' N'
      k_with_none
      k_with "MineMem" => (first | (with_reducible assumption) | (with_reducible exact List.mem_cons_self) | ((with_reducible refine List.mem_append.mpr (Or.inl ?_)); walk_at "MineMem") | ((with_reducible refine List.mem_append.mpr (Or.inr ?_)); walk_at "MineMem") | ((with_reducible refine List.mem_cons_of_mem _ ?_); walk_at "MineMem"))
      k_with "eval ListComp" => ((k_here; k_dflt (refine LCg.ListComp_U (F₀ := by k_asm) (by with_unfolding_all rfl) (by decide) (by rfl) (by decide) (by rfl) ?_)))
      k_with "MineItem" => (first | exact DatIn.none | exact DatIn.bool _ | exact DatIn.int _ _ | exact DatIn.str _ _ | assumption | (refine DatIn.mono ?_ (by assumption); (intro p hp; (try simp only [List.mem_append, List.mem_cons] at hp ⊢); grind)))
      k_with "MineLt" => (first | assumption | exact allLt_of (by assumption) | tbn_find | (simp only [AllLt, and_true]; tbn_conj))
      k_with "MineTup" => ((refine DatIn.tuple (List.mem_append.mpr (Or.inr (List.Mem.head _))) ?_; repeat' (first | exact DatAll.nil | refine DatAll.cons ?_ ?_ | walk_at "MineItem")))
      k_with "TurnEnd" => ((refine TurnEnd.intro [(_, _)] (by assumption) (tl1 (by assumption)) (off1 (by walk_at "MineLt")) (by walk_at "MineTup")))
      k_with "MineSub" => (first | exact fun _ h => h | assumption | (intro p hp; first | (exact List.Mem.tail _ (by assumption)) | (simp only [List.mem_append, List.mem_cons, List.not_mem_nil, or_false] at hp ⊢; grind)))
      k_with "subscriptTail" => ((k_here; (with_reducible show wpAny _ _ (subscriptTail _ _ (Value.ref _) (Value.int _ _)) _ _ _); k_dflt (refine' item_tupleT ?mwt ?mwa ?mwb ?mwc ?mwd ?_; (case mwt => exact News.isTup (by k_asm) (by walk_at "MineMem")); (case mwa => decide); (case mwb => decide); (case mwc => rfl); (case mwd => rfl); k_whole)))
      k_with "MineRoom" => (first | assumption | ktr_room | (dsimp only [ktrTop, Around.deeper, Around.in1] at *; simp only [recursionLimit] at *; omega))
      k_with "MineUnits" => (first | ktr_units | (have hcL9 := cLine_is; dsimp only [ktrTop, Around.deeper, Around.in1] at *; omega))
      k_with "And" => (((with_reducible show WrapAt _ _ ∧ _); k_dflt (refine ⟨WrapAt.of (by k_asm) (by walk_at "MineMemD"), ?_⟩); (try dsimp only [List.nil_append, List.cons_append])))
      k_with "eval Name" => ((k_here; (with_reducible show wpAny _ _ (eval (Expr.Name _ _) (compEnvC _ _ _ _)) _ _ _); k_dflt (first | refine LCgL.ld_own (by k_asm) (by walk_at "MineMem") (by assumption) (by assumption) ?_ | refine LCgL.ld_global (by k_asm) (by k_asm) (by k_asm) (by k_is) ?_ | refine LCgL.ld_built (by k_asm) (by k_asm) (by k_asm) (by k_is) (by boot_by_name) (by decide) ?_)))
      k_with "MineMemD" => ((repeat' (first | assumption | exact List.mem_cons_self | (refine List.mem_cons_of_mem _ ?_) | (refine List.mem_append.mpr (Or.inl ?_)) | fail "MineMemD")))
      k_with "call ref" => (refine Hid.out ?_)
      k_steps
      unfold Hid
      refine' tel_use (sub := sub ++ e2 ++ tl') (num_tel d) (by k_asm) (by k_asm) (by k_asm) (by k_asm) (by k_asm) (by first | exact rfl | assumption) ?_ (DatAll.cons hv .nil) (by walk_at "MineRoom") (by walk_at "MineUnits") ?_
      · intro p hp
        refine .tail _ (.tail _ (.tail _ ?_))
        rcases List.mem_append.mp hp with hp | hp
        · exact List.mem_append.mpr (.inl (hsub16 p hp))
        · exact List.mem_append.mpr (.inr hp)
      intro r8 tl8 h8 tk8 F8 N8 o8 D8
      exact ⟨h8, tk8, tl8, rfl, F8, N8, o8, D8⟩
    case' fin4 =>
    intro g17 ys4 tl17 o17 D17
    clear hF F16 N16
    intro S4 h17 tk17 F17 N17 l17
    dsimp only
    k_with_none
    k_with "MineMem" => (first | (with_reducible assumption) | (with_reducible exact List.mem_cons_self) | ((with_reducible refine List.mem_append.mpr (Or.inl ?_)); walk_at "MineMem") | ((with_reducible refine List.mem_append.mpr (Or.inr ?_)); walk_at "MineMem") | ((with_reducible refine List.mem_cons_of_mem _ ?_); walk_at "MineMem"))
    k_with "eval ListComp" => ((k_here; k_dflt (refine LCg.ListComp_U (F₀ := by k_asm) (by with_unfolding_all rfl) (by decide) (by rfl) (by decide) (by rfl) ?_)))
    k_with "MineItem" => (first | exact DatIn.none | exact DatIn.bool _ | exact DatIn.int _ _ | exact DatIn.str _ _ | assumption | (refine DatIn.mono ?_ (by assumption); (intro p hp; (try simp only [List.mem_append, List.mem_cons] at hp ⊢); grind)))
    k_with "MineLt" => (first | assumption | exact allLt_of (by assumption) | tbn_find | (simp only [AllLt, and_true]; tbn_conj))
    k_with "MineTup" => ((refine DatIn.tuple (List.mem_append.mpr (Or.inr (List.Mem.head _))) ?_; repeat' (first | exact DatAll.nil | refine DatAll.cons ?_ ?_ | walk_at "MineItem")))
    k_with "TurnEnd" => ((refine TurnEnd.intro [(_, _)] (by assumption) (tl1 (by assumption)) (off1 (by walk_at "MineLt")) (by walk_at "MineTup")))
    k_with "MineSub" => (first | exact fun _ h => h | assumption | (intro p hp; first | (exact List.Mem.tail _ (by assumption)) | (simp only [List.mem_append, List.mem_cons, List.not_mem_nil, or_false] at hp ⊢; grind)))
    k_with "subscriptTail" => ((k_here; (with_reducible show wpAny _ _ (subscriptTail _ _ (Value.ref _) (Value.int _ _)) _ _ _); k_dflt (refine' item_tupleT ?mwt ?mwa ?mwb ?mwc ?mwd ?_; (case mwt => exact News.isTup (by k_asm) (by walk_at "MineMem")); (case mwa => decide); (case mwb => decide); (case mwc => rfl); (case mwd => rfl); k_whole)))
    k_with "MineRoom" => (first | assumption | ktr_room | (dsimp only [ktrTop, Around.deeper, Around.in1] at *; simp only [recursionLimit] at *; omega))
    k_with "MineUnits" => (first | ktr_units | (have hcL9 := cLine_is; dsimp only [ktrTop, Around.deeper, Around.in1] at *; omega))
    k_with "And" => (((with_reducible show WrapAt _ _ ∧ _); k_dflt (refine ⟨WrapAt.of (by k_asm) (by walk_at "MineMemD"), ?_⟩); (try dsimp only [List.nil_append, List.cons_append])))
    k_with "eval Name" => ((k_here; (with_reducible show wpAny _ _ (eval (Expr.Name _ _) (compEnvC _ _ _ _)) _ _ _); k_dflt (first | refine LCgL.ld_own (by k_asm) (by walk_at "MineMem") (by assumption) (by assumption) ?_ | refine LCgL.ld_global (by k_asm) (by k_asm) (by k_asm) (by k_is) ?_ | refine LCgL.ld_built (by k_asm) (by k_asm) (by k_asm) (by k_is) (by boot_by_name) (by decide) ?_)))
    k_with "MineMemD" => ((repeat' (first | assumption | exact List.mem_cons_self | (refine List.mem_cons_of_mem _ ?_) | (refine List.mem_append.mpr (Or.inl ?_)) | fail "MineMemD")))
    k_with "call builtin:list.append" => (refine Hid.out ?_)
    k_steps
    rename_i T h18 F18 N18 l18
    unfold Hid
    obtain ⟨ex, hex⟩ : ∃ e, e = (T, ({ cls := .type "tuple", data := .seq #[.ref S1, .ref S4] } : Obj)) :: (S4, LCg.lst ys4) :: (e1 ++ e2 ++ e3 ++ e4 ++ e5 ++ tl17) := ⟨_, rfl⟩
    have N18' : News g1 L1 h18 (bs ++ ex) := newsIn N18 (by subst hex; intro p hp; simp only [List.mem_append, List.mem_cons] at hp ⊢; grind)
    have oex : ∀ q ∈ bs, ∀ p ∈ ex, p.1 ≠ q.1 := by
      intro q hq p hp
      subst hex
      have hq5 : q ∈ bs ++ e1 ++ e2 ++ e3 ++ e4 ++ e5 ++ tl17 := by simp only [List.mem_append]; simp only [hq, true_or]
      simp only [List.mem_cons, List.mem_append] at hp
      rcases hp with rfl | rfl | (((((hp | hp) | hp) | hp) | hp) | hp)
      · exact (Nat.ne_of_lt (ktn_ltOf l18.2 q hq5)).symm
      · exact (off1_lt l17 q hq5).symm
      · exact o12' q hq p hp
      · exact o13' q (by simp only [List.mem_append, hq, true_or]) p hp
      · exact o14 q (by simp only [List.mem_append, hq, true_or]) p hp
      · exact o15' q (by simp only [List.mem_append, hq, true_or]) p hp
      · exact o16 q (by simp only [List.mem_append, hq, true_or]) p hp
      · exact o17 q (by simp only [List.mem_append, hq, true_or]) p hp
    have hT : (T, ({ cls := .type "tuple", data := .seq #[.ref S1, .ref S4] } : Obj)) ∈ ex := by subst hex; exact .head _
    have hS4 : (S4, LCg.lst ys4) ∈ ex := by subst hex; exact .tail _ (.head _)
    have hS1x : (S1, LCg.lst ys) ∈ ex := by subst hex; simp only [List.mem_cons, List.mem_append, hS1, true_or, or_true]
    have DT : DatIn (sub ++ (tl ++ ex)) (.ref T) (rowD cs f) := by
      refine DatIn.tuple (List.mem_append.mpr (.inr (List.mem_append.mpr (.inr hT)))) (.cons ?_ (.cons ?_ .nil))
      · exact DatIn.list (List.mem_append.mpr (.inr (List.mem_append.mpr (.inr hS1x)))) (datAll_flat D12' (flat_things hc f))
      · refine DatIn.list (List.mem_append.mpr (.inr (List.mem_append.mpr (.inr hS4)))) (DatAll.mono ?_ (by rw [List.map_map] at D17; exact D17))
        intro p hp
        subst hex
        simp only [List.mem_append, List.mem_cons] at hp ⊢
        grind
    clear N18 D17 D12' D13' D14 D15' D16 o12' o13' o14 o15' o16 o17 l17 l18
    have hlr : rows.length ≤ 1000 := by
      have a := hD'.length
      have b := congrArg List.length hdone
      simp only [List.length_append, List.length_cons, List.length_map, forms, List.length_nil] at a b
      omega
    have hbsI : (I, oI) ∈ bs := by rw [hbs]; exact .tail _ (.head _)
    refine append_N ((L1 + 1 + 1, oF2) :: (I, oI) :: (news ++ tl ++ ex)) F18 N18' (List.mem_append.mpr (.inl hS6)) ?_ ?_ hlr ?_
    · intro p hp
      rw [hbs]
      simp only [List.mem_append, List.mem_cons] at hp ⊢
      grind
    · intro p hp
      rcases List.mem_cons.mp hp with rfl | hp
      · exact (g6 _ (.head _)).symm
      rcases List.mem_cons.mp hp with rfl | hp
      · exact (offI _ (.head _)).symm
      rcases List.mem_append.mp hp with hp | hp
      · exact g7 p hp
      · exact oex _ hS6 p hp
    intro h19 F19 N19
    refine wpAny_execs_nil ?_
    have offS : S6 ≠ I := offI (S6, lstO rows c) (.head _)
    have offF : L1 + 1 + 1 ≠ I := offI (L1 + 1 + 1, oF') (.tail _ (.head _))
    have offSF : S6 ≠ L1 + 1 + 1 := g6 (S6, lstO rows c) (.head _)
    refine SeqEnd.intro ((S6, lstO (rows ++ [Value.ref T]) (c + 1)) :: (L1 + 1 + 1, oF2) :: (news ++ (tl ++ ex))) F19 (newsIn N19 ?_) hI ?_ ⟨?_, ?_⟩
    · intro p hp
      rcases List.mem_cons.mp hp with rfl | hp
      · exact .tail _ (.tail _ (.head _))
      rcases List.mem_cons.mp hp with rfl | hp
      · exact .head _
      rcases List.mem_cons.mp hp with rfl | hp
      · exact .tail _ (.head _)
      rw [← List.append_assoc] at hp
      exact .tail _ (.tail _ (.tail _ hp))
    · intro p hp
      rcases List.mem_cons.mp hp with rfl | hp
      · exact offS
      rcases List.mem_cons.mp hp with rfl | hp
      · exact offF
      rw [← List.append_assoc] at hp
      rcases List.mem_append.mp hp with hp | hp
      · exact offI _ (.tail _ (.tail _ hp))
      · exact oex _ hbsI p hp
    · exact .tail _ (.tail _ (List.mem_append.mpr (.inr (List.mem_append.mpr (.inl g1')))))
    · refine ih vsF (i + 1) _ (done ++ [f]) (rows ++ [Value.ref T]) (c + 1) oF2 (tl ++ ex) (some vF) (by rw [List.append_assoc]; exact hdone) hvals hr2 hcd2 dF2 (List.mem_append.mpr (.inl g1')) (List.mem_append.mpr (.inl g2)) (List.mem_append.mpr (.inl g3)) (List.mem_append.mpr (.inl g4)) ?_ ?_ ?_ ?_
      · intro p hp
        rcases List.mem_cons.mp hp with rfl | hp
        · exact offSF
        rw [← List.append_assoc] at hp
        rcases List.mem_append.mp hp with hp | hp
        · exact g6 _ (.tail _ hp)
        · exact oex _ hmemF p hp
      · intro p hp
        rw [← List.append_assoc] at hp
        rcases List.mem_append.mp hp with hp | hp
        · exact g7 p hp
        · exact oex _ hS6 p hp
      · intro q hq p hp
        rcases List.mem_append.mp hp with hp | hp
        · exact g8 q hq p hp
        · exact oex q (by rw [hbs]; exact .tail _ (.tail _ (.tail _ (List.mem_append.mpr (.inl hq))))) p hp
      · rw [List.map_append]
        refine DatAll.append (DatAll.mono (fun p hp => ?_) hD') (.one DT)
        rw [← List.append_assoc]
        exact List.mem_append.mpr (.inl hp)

section
variable {prog : Program} {w : World} {A : Around} {E : Value → Shared → Prop} {s : Shared} {h₀ : Heap} {L : Addr} {m : Str → Option Value} {news : List (Addr × Obj)}
theorem add_arr {l b : Addr} {vs ws : List Value} {Q : Value → Shared → Prop} (F : Fr h₀ L s.heap m) (N : News h₀ L s.heap news) (hl : s.heap.IsList l vs.toArray) (hb : s.heap.IsList b ws.toArray) (hv : vs.length ≤ 1000) (hw : ws.length ≤ 1000)
    (h : ∀ D h', Fr h₀ L h' m → News h₀ L h' ((D, W.listOf (vs ++ ws).toArray 0) :: news) → (∀ p ∈ news, p.1 < D) → Q (.ref D) { s with heap := h' }) :
    wpAny (model prog w) A (binaryOp .Add (.ref l) (.ref b)) Q E s :=
  add_arrays F N hl hb (fun h' F' N' => h _ h' F' N' fun p hp => Heap.lt_size (N p hp).1) (by simp only [List.size_toArray, sizeLine_eq]; omega)
theorem isL {h : Heap} {l : Addr} {its : Array Value} {k : Nat} (N : News h₀ L h news) (hm : (l, W.listOf its k) ∈ news) : h.IsList l its := ⟨_, (N _ hm).1, rfl, _, rfl⟩
end
def LawInv (Lw : Addr) (B : List (Addr × Obj)) (r2 rc rs : Value) (X : List (Addr × Obj)) (P1 P2 : Option Value → Prop) (m' : Str → Option Value) (led : List (Addr × Obj)) : Prop :=
  ∃ (o1 o2 o3 : Obj) (v1 v2 v3 : Option Value) (E : List (Addr × Obj)), led = (Lw + 1, o1) :: (Lw + 1 + 1, o2) :: (Lw + 1 + 1 + 1, o3) :: (X ++ (B ++ E)) ∧ o1.data = .cell v1 ∧ o2.data = .cell v2 ∧ o3.data = .cell v3 ∧ P1 v1 ∧ P2 v2 ∧
    (∀ p ∈ X ++ (B ++ E), p.1 ≠ Lw + 1 ∧ p.1 ≠ Lw + 1 + 1 ∧ p.1 ≠ Lw + 1 + 1 + 1) ∧ (∀ q ∈ X, ∀ p ∈ B ++ E, p.1 ≠ q.1) ∧ m' (Str.ofString "others") = some r2 ∧ m' (Str.ofString "codes") = some rc ∧ m' (Str.ofString "script") = some rs
def OutInv (Lw : Addr) (B : List (Addr × Obj)) (r2 rc rs : Value) (c1 : List Code3) (vals : List Value) (_i : Nat) (m' : Str → Option Value) (led : List (Addr × Obj)) : Prop :=
  ∃ todo : List Form, DatAll B vals (todo.map (rowD c1)) ∧ LawInv Lw B r2 rc rs [] (fun _ => True) (fun _ => True) m' led
def InnInv (Lw : Addr) (B : List (Addr × Obj)) (r2 rc rs : Value) (c2 : List Code3) (X : List (Addr × Obj)) (v1 v2 : Value) (vals : List Value) (_i : Nat) (m' : Str → Option Value) (led : List (Addr × Obj)) : Prop :=
  ∃ todo : List Form, DatAll B vals (todo.map (rowD c2)) ∧ LawInv Lw B r2 rc rs X (fun v => v = some v1) (fun v => v = some v2) m' led
theorem mem_led {α : Type} {S : α} {L0 e9 e22 e23 e24 : List α} : ∀ p ∈ L0 ++ (S :: (e9 ++ e22 ++ e23 ++ e24)), p ∈ S :: (L0 ++ e9) ++ e22 ++ e23 ++ e24 := by
  intro p hp
  simp only [List.mem_append, List.mem_cons] at hp ⊢
  grind
theorem mem_led2 {α : Type} {c1 c2 c3 i2 i : α} {B EI XX : List α} : ∀ p ∈ i2 :: c1 :: c2 :: c3 :: ([i] ++ (B ++ (EI ++ XX))), p ∈ (c1 :: c2 :: c3 :: i2 :: ([i] ++ (B ++ EI))) ++ XX := by
  intro p hp
  simp only [List.mem_append, List.mem_cons, List.not_mem_nil, or_false] at hp ⊢
  grind
theorem mem_led3 {α : Type} {S : α} {B L0 e9 e22 e23 e24 : List α} (h : ∀ p ∈ B, p ∈ L0) : ∀ p ∈ B ++ e22 ++ e23, p ∈ S :: (L0 ++ e9) ++ e22 ++ e23 ++ e24 := by
  intro p hp
  have q := h p
  simp only [List.mem_append, List.mem_cons] at hp ⊢
  grind
theorem mem_led4 {α : Type} {S : α} {L0 e9 e22 e23 e24 : List α} : ∀ p ∈ S :: e9 ++ e24, p ∈ S :: (L0 ++ e9) ++ e22 ++ e23 ++ e24 := by
  intro p hp
  simp only [List.mem_append, List.mem_cons] at hp ⊢
  grind
theorem mem_led5 {α : Type} {c1 c2 c3 c3' i2 : α} {X : List α} : ∀ p ∈ i2 :: c1 :: c2 :: X, p ∈ i2 :: c1 :: c2 :: c3 :: X := by
  intro p hp
  simp only [List.mem_cons] at hp ⊢
  grind
theorem fmt_e (t u : Tok) : Builtin.«str.format» ⟨[.str (Str.ofString "Unknown conversion specifier {0!s}") t, .str (Str.ofString "") u], []⟩ = retStr (Str.ofString "Unknown conversion specifier ") := by kernel_rfl
theorem fmt_S (t u : Tok) : Builtin.«str.format» ⟨[.str (Str.ofString "Unknown conversion specifier {0!s}") t, .str (Str.ofString "S") u], []⟩ = retStr (Str.ofString "Unknown conversion specifier S") := by kernel_rfl
theorem fmt_rr (t u : Tok) : Builtin.«str.format» ⟨[.str (Str.ofString "Unknown conversion specifier {0!s}") t, .str (Str.ofString "rr") u], []⟩ = retStr (Str.ofString "Unknown conversion specifier rr") := by kernel_rfl
theorem fmt_x (t u : Tok) : Builtin.«str.format» ⟨[.str (Str.ofString "Unknown conversion specifier {0!s}") t, .str (Str.ofString "x") u], []⟩ = retStr (Str.ofString "Unknown conversion specifier x") := by kernel_rfl
section
variable {prog : Program} {w : World} {A : Around} {E : Value → Shared → Prop} {s : Shared}
theorem call_fmt {x y : Str} {t u : Tok} {Q : Value → Shared → Prop} (e : Builtin.«str.format» ⟨[.str (Str.ofString "Unknown conversion specifier {0!s}") t, .str x u], []⟩ = retStr y) (hy : y.length ≤ sizeLine) (h : ∀ t' k, Q (.str y t') { s with toks := k }) :
    wpAny (model prog w) A (call (.builtin "str.format") [.str (Str.ofString "Unknown conversion specifier {0!s}") t, .str x u]) Q E s := by
  refine KFm.call_k (T := y) rfl (KFm.args_2 _ _) ?_ h
  rw [e]
  refine KPc.meets_of fun _ _ _ _ _ _ hq => ?_
  unfold retStr
  refine wpAny_bind (wpAny_mkStr ?_ hy)
  exact wpAny_pure (hq _ _)
end

theorem law_holds : PySem.Challenge.rw_ij0164_01.Holds := hd (by
  k_fill
  w_top off
  intro w s₀ s₁ mg mb G Y fa o pm cd doc dV kV ho hd hcd hD hmg hg args vals as hpre hlay hrd hwl hlo
  have KX := kIn_of Y
  k_behind G ho hd hcd hD hmg hpre hlay hrd hwl hlo cd
  all_goals (try k_fold)
  rename_i scr svs sas hL0 ra0 w10 r00 hI hr0 hcond1 hcond2 K0 hh1 tk1 FF oc3 oc2 oc1 dc3 dc2 dc1 NN0 XX0
  obtain ⟨cs0, hcs0⟩ : ∃ c, c = [(s₁.heap.objs.size + 1 + 1 + 1, oc3), (s₁.heap.objs.size + 1 + 1, oc2), (s₁.heap.objs.size + 1, oc1)] := ⟨_, rfl⟩
  rw [← hcs0] at NN0
  k_with_none
  k_with "MineMem" => (first | (with_reducible assumption) | (with_reducible exact List.mem_cons_self) | ((with_reducible refine List.mem_append.mpr (Or.inl ?_)); walk_at "MineMem") | ((with_reducible refine List.mem_append.mpr (Or.inr ?_)); walk_at "MineMem") | ((with_reducible refine List.mem_cons_of_mem _ ?_); walk_at "MineMem"))
  k_with "eval ListComp" => ((k_here; k_dflt (refine LCg.ListComp_U (F₀ := by k_asm) (by with_unfolding_all rfl) (by decide) (by rfl) (by decide) (by rfl) ?_)))
  k_with "MineItem" => (first | exact DatIn.none | exact DatIn.bool _ | exact DatIn.int _ _ | exact DatIn.str _ _ | assumption | (refine DatIn.mono ?_ (by assumption); (intro p hp; (try simp only [List.mem_append, List.mem_cons] at hp ⊢); grind)))
  k_with "MineLt" => (first | assumption | exact allLt_of (by assumption) | tbn_find | (simp only [AllLt, and_true]; tbn_conj))
  k_with "MineTup" => ((refine DatIn.tuple (List.mem_append.mpr (Or.inr (List.Mem.head _))) ?_; repeat' (first | exact DatAll.nil | refine DatAll.cons ?_ ?_ | walk_at "MineItem")))
  k_with "TurnEnd" => ((refine TurnEnd.intro [(_, _)] (by assumption) (tl1 (by assumption)) (off1 (by walk_at "MineLt")) (by walk_at "MineTup")))
  k_with "MineSub" => (first | exact fun _ h => h | assumption | (intro p hp; first | (exact List.Mem.tail _ (by assumption)) | (simp only [List.mem_append, List.mem_cons, List.not_mem_nil, or_false] at hp ⊢; grind)))
  k_with "subscriptTail" => ((k_here; (with_reducible show wpAny _ _ (subscriptTail _ _ (Value.ref _) (Value.int _ _)) _ _ _); k_dflt (refine' item_tupleT ?mwt ?mwa ?mwb ?mwc ?mwd ?_; (case mwt => exact News.isTup (by k_asm) (by walk_at "MineMem")); (case mwa => decide); (case mwb => decide); (case mwc => rfl); (case mwd => rfl); k_whole)))
  k_with "MineRoom" => (first | assumption | ktr_room | (dsimp only [ktrTop, Around.deeper, Around.in1] at *; simp only [recursionLimit] at *; omega))
  k_with "MineUnits" => (first | ktr_units | (have hcL9 := cLine_is; dsimp only [ktrTop, Around.deeper, Around.in1] at *; omega))
  k_with "And" => (((with_reducible show WrapAt _ _ ∧ _); k_dflt (refine ⟨WrapAt.of (by k_asm) (by walk_at "MineMemD"), ?_⟩); (try dsimp only [List.nil_append, List.cons_append])))
  k_with "eval Name" => ((k_here; (with_reducible show wpAny _ _ (eval (Expr.Name _ _) (compEnvC _ _ _ _)) _ _ _); k_dflt (first | refine LCgL.ld_own (by k_asm) (by walk_at "MineMem") (by assumption) (by assumption) ?_ | refine LCgL.ld_global (by k_asm) (by k_asm) (by k_asm) (by k_is) ?_ | refine LCgL.ld_built (by k_asm) (by k_asm) (by k_asm) (by k_is) (by boot_by_name) (by decide) ?_)))
  k_with "MineMemD" => ((repeat' (first | assumption | exact List.mem_cons_self | (refine List.mem_cons_of_mem _ ?_) | (refine List.mem_append.mpr (Or.inl ?_)) | fail "MineMemD")))
  k_with "subscriptTail Name Slice ref ref" => ((with_reducible show wpAny _ _ (subscriptTail _ (PySem.Expr.Slice _ _ (some _) _) (Value.ref _) (Value.ref _)) _ _ _); k_dflt (refine' kmk_slice3_lit ?zF1 ?zN1 ?zl1 ?zp1 ?zq1 ?zk1 ?zo1 ?ze1 ?_ ?zs1 ?zt1 ?zz1; (case zF1 => k_asm); (case zN1 => k_asm); (case zl1 => kmk_list); (case zp1 => kmk_part); (case zq1 => kmk_part); (case zk1 => kmk_part); (case zo1 => decide); (case ze1 => exact rfl); (case zs1 => with_unfolding_all rfl); (case zt1 => kmk_pure); (case zz1 => kmk_size)); intro D' h' F' N' l1; generalize hpk : Array.toList (slicePick _ _ _ _) = pk at N')
  k_with "CompSrc" => (refine Hid.out ?_)
  k_steps
  unfold Hid
  obtain ⟨ms, hms, hml⟩ := slice_ints hI 0
  rw [hpk] at hms
  clear hpk
  refine src_U (sub := []) (enc := Dat.int) (dec := fun x => codeD (drawnS x)) (ds := ms) (by rfl) F' N' (.head _) (fun _ h => nomatch h) (datAll_ints hms) (by omega) ?turn1 ?fin1
  case' turn1 =>
    clear F' N'
    intro v d I' oI' C oC D m₂ ys' tl' h tk' E' hd' hv hC hx F' N'
    k_with_none
    k_with "MineMem" => (first | (with_reducible assumption) | (with_reducible exact List.mem_cons_self) | ((with_reducible refine List.mem_append.mpr (Or.inl ?_)); walk_at "MineMem") | ((with_reducible refine List.mem_append.mpr (Or.inr ?_)); walk_at "MineMem") | ((with_reducible refine List.mem_cons_of_mem _ ?_); walk_at "MineMem"))
    k_with "eval ListComp" => ((k_here; k_dflt (refine LCg.ListComp_U (F₀ := by k_asm) (by with_unfolding_all rfl) (by decide) (by rfl) (by decide) (by rfl) ?_)))
    k_with "MineItem" => (first | exact DatIn.none | exact DatIn.bool _ | exact DatIn.int _ _ | exact DatIn.str _ _ | assumption | (refine DatIn.mono ?_ (by assumption); (intro p hp; (try simp only [List.mem_append, List.mem_cons] at hp ⊢); grind)))
    k_with "MineLt" => (first | assumption | exact allLt_of (by assumption) | tbn_find | (simp only [AllLt, and_true]; tbn_conj))
    k_with "MineTup" => ((refine DatIn.tuple (List.mem_append.mpr (Or.inr (List.Mem.head _))) ?_; repeat' (first | exact DatAll.nil | refine DatAll.cons ?_ ?_ | walk_at "MineItem")))
    k_with "TurnEnd" => ((refine TurnEnd.intro [(_, _)] (by assumption) (tl1 (by assumption)) (off1 (by walk_at "MineLt")) (by walk_at "MineTup")))
    k_with "MineSub" => (first | exact fun _ h => h | assumption | (intro p hp; first | (exact List.Mem.tail _ (by assumption)) | (simp only [List.mem_append, List.mem_cons, List.not_mem_nil, or_false] at hp ⊢; grind)))
    k_with "subscriptTail" => ((k_here; (with_reducible show wpAny _ _ (subscriptTail _ _ (Value.ref _) (Value.int _ _)) _ _ _); k_dflt (refine' item_tupleT ?mwt ?mwa ?mwb ?mwc ?mwd ?_; (case mwt => exact News.isTup (by k_asm) (by walk_at "MineMem")); (case mwa => decide); (case mwb => decide); (case mwc => rfl); (case mwd => rfl); k_whole)))
    k_with "MineRoom" => (first | assumption | ktr_room | (dsimp only [ktrTop, Around.deeper, Around.in1] at *; simp only [recursionLimit] at *; omega))
    k_with "MineUnits" => (first | ktr_units | (have hcL9 := cLine_is; dsimp only [ktrTop, Around.deeper, Around.in1] at *; omega))
    k_with "And" => (((with_reducible show WrapAt _ _ ∧ _); k_dflt (refine ⟨WrapAt.of (by k_asm) (by walk_at "MineMemD"), ?_⟩); (try dsimp only [List.nil_append, List.cons_append])))
    k_with "eval Name" => ((k_here; (with_reducible show wpAny _ _ (eval (Expr.Name _ _) (compEnvC _ _ _ _)) _ _ _); k_dflt (first | refine LCgL.ld_own (by k_asm) (by walk_at "MineMem") (by assumption) (by assumption) ?_ | refine LCgL.ld_global (by k_asm) (by k_asm) (by k_asm) (by k_is) ?_ | refine LCgL.ld_built (by k_asm) (by k_asm) (by k_asm) (by k_is) (by boot_by_name) (by decide) ?_)))
    k_with "MineMemD" => ((repeat' (first | assumption | exact List.mem_cons_self | (refine List.mem_cons_of_mem _ ?_) | (refine List.mem_append.mpr (Or.inl ?_)) | fail "MineMemD")))
    k_with "call ref" => (refine Hid.out ?_)
    k_steps
    unfold Hid
    refine' tel_use (sub := []) (drawn_tel d) (by k_asm) (by k_asm) (by k_asm) (by k_asm) (by k_asm) (by first | exact rfl | assumption) (fun _ h => nomatch h) (DatAll.cons (datIn_flat hv rfl) .nil) (by walk_at "MineRoom") (by walk_at "MineUnits") ?_
    intro r8 tl8 h8 tk8 F8 N8 o8 D8
    exact ⟨h8, tk8, tl8, rfl, F8, N8, o8, DatIn.mono (fun p hp => List.mem_append.mpr (.inr hp)) D8⟩
  case' fin1 =>
  intro g2 ys2 e2 o2 D2
  clear F' N'
  intro S2 h2 tk2 F2 N2 l2
  dsimp only
  k_with_none
  k_with "MineMem" => (first | (with_reducible assumption) | (with_reducible exact List.mem_cons_self) | ((with_reducible refine List.mem_append.mpr (Or.inl ?_)); walk_at "MineMem") | ((with_reducible refine List.mem_append.mpr (Or.inr ?_)); walk_at "MineMem") | ((with_reducible refine List.mem_cons_of_mem _ ?_); walk_at "MineMem"))
  k_with "eval ListComp" => ((k_here; k_dflt (refine LCg.ListComp_U (F₀ := by k_asm) (by with_unfolding_all rfl) (by decide) (by rfl) (by decide) (by rfl) ?_)))
  k_with "MineItem" => (first | exact DatIn.none | exact DatIn.bool _ | exact DatIn.int _ _ | exact DatIn.str _ _ | assumption | (refine DatIn.mono ?_ (by assumption); (intro p hp; (try simp only [List.mem_append, List.mem_cons] at hp ⊢); grind)))
  k_with "MineLt" => (first | assumption | exact allLt_of (by assumption) | tbn_find | (simp only [AllLt, and_true]; tbn_conj))
  k_with "MineTup" => ((refine DatIn.tuple (List.mem_append.mpr (Or.inr (List.Mem.head _))) ?_; repeat' (first | exact DatAll.nil | refine DatAll.cons ?_ ?_ | walk_at "MineItem")))
  k_with "TurnEnd" => ((refine TurnEnd.intro [(_, _)] (by assumption) (tl1 (by assumption)) (off1 (by walk_at "MineLt")) (by walk_at "MineTup")))
  k_with "MineSub" => (first | exact fun _ h => h | assumption | (intro p hp; first | (exact List.Mem.tail _ (by assumption)) | (simp only [List.mem_append, List.mem_cons, List.not_mem_nil, or_false] at hp ⊢; grind)))
  k_with "subscriptTail" => ((k_here; (with_reducible show wpAny _ _ (subscriptTail _ _ (Value.ref _) (Value.int _ _)) _ _ _); k_dflt (refine' item_tupleT ?mwt ?mwa ?mwb ?mwc ?mwd ?_; (case mwt => exact News.isTup (by k_asm) (by walk_at "MineMem")); (case mwa => decide); (case mwb => decide); (case mwc => rfl); (case mwd => rfl); k_whole)))
  k_with "MineRoom" => (first | assumption | ktr_room | (dsimp only [ktrTop, Around.deeper, Around.in1] at *; simp only [recursionLimit] at *; omega))
  k_with "MineUnits" => (first | ktr_units | (have hcL9 := cLine_is; dsimp only [ktrTop, Around.deeper, Around.in1] at *; omega))
  k_with "And" => (((with_reducible show WrapAt _ _ ∧ _); k_dflt (refine ⟨WrapAt.of (by k_asm) (by walk_at "MineMemD"), ?_⟩); (try dsimp only [List.nil_append, List.cons_append])))
  k_with "eval Name" => ((k_here; (with_reducible show wpAny _ _ (eval (Expr.Name _ _) (compEnvC _ _ _ _)) _ _ _); k_dflt (first | refine LCgL.ld_own (by k_asm) (by walk_at "MineMem") (by assumption) (by assumption) ?_ | refine LCgL.ld_global (by k_asm) (by k_asm) (by k_asm) (by k_is) ?_ | refine LCgL.ld_built (by k_asm) (by k_asm) (by k_asm) (by k_is) (by boot_by_name) (by decide) ?_)))
  k_with "MineMemD" => ((repeat' (first | assumption | exact List.mem_cons_self | (refine List.mem_cons_of_mem _ ?_) | (refine List.mem_append.mpr (Or.inl ?_)) | fail "MineMemD")))
  k_with "binaryOp Add ref ref" => (refine Hid.out ?_)
  k_steps
  rename_i T3 h3x l3a S3 h3y F3 N3 l3b
  unfold Hid
  have hD4 : DatAll ((T3, ({ cls := .type "tuple", data := .seq #[.int 9 tk2, .int 1 (tk2 + 1), .int 0 (tk2 + 1 + 1)] } : Obj)) :: e2) (ys2 ++ [.ref T3]) ((ms.map drawnS ++ [(9, 1, 0)]).map codeD) := by
    rw [List.map_append, List.map_map]
    refine DatAll.append (DatAll.mono (fun p hp => .tail _ hp) D2) (.one (DatIn.tuple (.head _) (.cons (.int _ _) (.cons (.int _ _) (.cons (.int _ _) .nil)))))
  obtain ⟨c1, hc1⟩ : ∃ c, c = ms.map drawnS ++ [((9, 1, 0) : Code3)] := ⟨_, rfl⟩
  have hc1l : c1.length ≤ 6 := by rw [hc1]; simp; omega
  have hc1d : ∀ c ∈ c1, c ∈ drawnAll := by
    rw [hc1]
    intro c h
    rcases List.mem_append.mp h with h | h
    · obtain ⟨x, _, rfl⟩ := List.mem_map.mp h; exact drawn_mem x
    · rw [List.mem_singleton.mp h]; decide
  have hc1p : 0 < c1.length := by rw [hc1]; simp
  rw [← hc1] at hD4
  clear hc1
  refine add_arr (vs := ys2) (ws := [.ref T3]) F3 N3 (isL N3 (.tail _ (.tail _ (.head _)))) (isL N3 (.head _)) (by have q := D2.length; rw [List.length_map] at q; omega) (by show 1 ≤ 1000; decide) ?_
  intro SC1 h4 F4 N4 l4
  obtain ⟨E1, hE1⟩ : ∃ e : List (Addr × Obj), e = (SC1, W.listOf (ys2 ++ [Value.ref T3]).toArray 0) :: (S3, W.listOf #[Value.ref T3] 0) :: (T3, { cls := .type "tuple", data := .seq #[.int 9 tk2, .int 1 (tk2 + 1), .int 0 (tk2 + 1 + 1)] }) :: (S2, LCg.lst ys2) :: (D', W.listOf pk.toArray 0) :: e2 := ⟨_, rfl⟩
  have N4' : News s₁.heap s₁.heap.objs.size h4 (cs0 ++ E1) := newsIn N4 (by
    subst hE1
    intro p hp
    simp only [List.mem_append, List.mem_cons, List.not_mem_nil, or_false] at hp ⊢
    grind)
  have off1 : ∀ q ∈ cs0, ∀ p ∈ E1, p.1 ≠ q.1 := by
    intro q hq p hp
    rw [hE1] at hp
    rcases List.mem_cons.mp hp with rfl | hp
    · exact Nat.ne_of_gt (l4 q (.tail _ (.tail _ (.tail _ (.tail _ (List.mem_append.mpr (.inl hq)))))))
    rcases List.mem_cons.mp hp with rfl | hp
    · exact Nat.ne_of_gt (ktn_ltOf l3b.2.2 q (.tail _ (List.mem_append.mpr (.inl hq))))
    rcases List.mem_cons.mp hp with rfl | hp
    · exact Nat.ne_of_gt (ktn_ltOf l3a.2 q (.tail _ (List.mem_append.mpr (.inl hq))))
    rcases List.mem_cons.mp hp with rfl | hp
    · exact (off1_lt l2 q (.tail _ (List.mem_append.mpr (.inl hq)))).symm
    rcases List.mem_cons.mp hp with rfl | hp
    · exact Nat.ne_of_gt (l1 q hq)
    · exact o2 q (.tail _ hq) p hp
  have hS4_1 : (SC1, W.listOf (ys2 ++ [Value.ref T3]).toArray 0) ∈ E1 := by rw [hE1]; exact .head _
  have hD4_1 : DatAll E1 (ys2 ++ [Value.ref T3]) (c1.map codeD) := DatAll.mono (by
    subst hE1
    intro p hp
    simp only [List.mem_cons] at hp ⊢
    grind) hD4
  clear N4 N3 l4 l3a l3b l2 o2 D2 hD4 F3 hE1 l1
  obtain ⟨vc1, hvc1⟩ : ∃ v, v = ys2 ++ [Value.ref T3] := ⟨_, rfl⟩
  rw [← hvc1] at hS4_1 hD4_1
  clear hvc1
  k_with_none
  k_with "MineMem" => (first | (with_reducible assumption) | (with_reducible exact List.mem_cons_self) | ((with_reducible refine List.mem_append.mpr (Or.inl ?_)); walk_at "MineMem") | ((with_reducible refine List.mem_append.mpr (Or.inr ?_)); walk_at "MineMem") | ((with_reducible refine List.mem_cons_of_mem _ ?_); walk_at "MineMem"))
  k_with "eval ListComp" => ((k_here; k_dflt (refine LCg.ListComp_U (F₀ := by k_asm) (by with_unfolding_all rfl) (by decide) (by rfl) (by decide) (by rfl) ?_)))
  k_with "MineItem" => (first | exact DatIn.none | exact DatIn.bool _ | exact DatIn.int _ _ | exact DatIn.str _ _ | assumption | (refine DatIn.mono ?_ (by assumption); (intro p hp; (try simp only [List.mem_append, List.mem_cons] at hp ⊢); grind)))
  k_with "MineLt" => (first | assumption | exact allLt_of (by assumption) | tbn_find | (simp only [AllLt, and_true]; tbn_conj))
  k_with "MineTup" => ((refine DatIn.tuple (List.mem_append.mpr (Or.inr (List.Mem.head _))) ?_; repeat' (first | exact DatAll.nil | refine DatAll.cons ?_ ?_ | walk_at "MineItem")))
  k_with "TurnEnd" => ((refine TurnEnd.intro [(_, _)] (by assumption) (tl1 (by assumption)) (off1 (by walk_at "MineLt")) (by walk_at "MineTup")))
  k_with "MineSub" => (first | exact fun _ h => h | assumption | (intro p hp; first | (exact List.Mem.tail _ (by assumption)) | (simp only [List.mem_append, List.mem_cons, List.not_mem_nil, or_false] at hp ⊢; grind)))
  k_with "subscriptTail" => ((k_here; (with_reducible show wpAny _ _ (subscriptTail _ _ (Value.ref _) (Value.int _ _)) _ _ _); k_dflt (refine' item_tupleT ?mwt ?mwa ?mwb ?mwc ?mwd ?_; (case mwt => exact News.isTup (by k_asm) (by walk_at "MineMem")); (case mwa => decide); (case mwb => decide); (case mwc => rfl); (case mwd => rfl); k_whole)))
  k_with "MineRoom" => (first | assumption | ktr_room | (dsimp only [ktrTop, Around.deeper, Around.in1] at *; simp only [recursionLimit] at *; omega))
  k_with "MineUnits" => (first | ktr_units | (have hcL9 := cLine_is; dsimp only [ktrTop, Around.deeper, Around.in1] at *; omega))
  k_with "And" => (((with_reducible show WrapAt _ _ ∧ _); k_dflt (refine ⟨WrapAt.of (by k_asm) (by walk_at "MineMemD"), ?_⟩); (try dsimp only [List.nil_append, List.cons_append])))
  k_with "eval Name" => ((k_here; (with_reducible show wpAny _ _ (eval (Expr.Name _ _) (compEnvC _ _ _ _)) _ _ _); k_dflt (first | refine LCgL.ld_own (by k_asm) (by walk_at "MineMem") (by assumption) (by assumption) ?_ | refine LCgL.ld_global (by k_asm) (by k_asm) (by k_asm) (by k_is) ?_ | refine LCgL.ld_built (by k_asm) (by k_asm) (by k_asm) (by k_is) (by boot_by_name) (by decide) ?_)))
  k_with "MineMemD" => ((repeat' (first | assumption | exact List.mem_cons_self | (refine List.mem_cons_of_mem _ ?_) | (refine List.mem_append.mpr (Or.inl ?_)) | fail "MineMemD")))
  k_with "call ref" => (refine Hid.out ?_)
  k_steps
  rename News _ _ _ _ => N4x
  rename Fr _ _ _ _ => F4x
  unfold Hid
  refine' tel_use (sub := E1) (rows_tel c1 hc1d hc1l) (by k_asm) (by k_asm) (by k_asm) (by k_asm) (by k_asm) (by first | exact rfl | assumption) (fun p hp => List.mem_append.mpr (.inr hp)) (DatAll.cons (DatIn.list hS4_1 hD4_1) .nil) (by walk_at "MineRoom") (by walk_at "MineUnits") ?_
  intro r1 er1 h5 tk5 F5 N5 or1 Dr1
  clear F4x N4x
  dsimp only
  k_with_none
  k_with "MineMem" => (first | (with_reducible assumption) | (with_reducible exact List.mem_cons_self) | ((with_reducible refine List.mem_append.mpr (Or.inl ?_)); walk_at "MineMem") | ((with_reducible refine List.mem_append.mpr (Or.inr ?_)); walk_at "MineMem") | ((with_reducible refine List.mem_cons_of_mem _ ?_); walk_at "MineMem"))
  k_with "eval ListComp" => ((k_here; k_dflt (refine LCg.ListComp_U (F₀ := by k_asm) (by with_unfolding_all rfl) (by decide) (by rfl) (by decide) (by rfl) ?_)))
  k_with "MineItem" => (first | exact DatIn.none | exact DatIn.bool _ | exact DatIn.int _ _ | exact DatIn.str _ _ | assumption | (refine DatIn.mono ?_ (by assumption); (intro p hp; (try simp only [List.mem_append, List.mem_cons] at hp ⊢); grind)))
  k_with "MineLt" => (first | assumption | exact allLt_of (by assumption) | tbn_find | (simp only [AllLt, and_true]; tbn_conj))
  k_with "MineTup" => ((refine DatIn.tuple (List.mem_append.mpr (Or.inr (List.Mem.head _))) ?_; repeat' (first | exact DatAll.nil | refine DatAll.cons ?_ ?_ | walk_at "MineItem")))
  k_with "TurnEnd" => ((refine TurnEnd.intro [(_, _)] (by assumption) (tl1 (by assumption)) (off1 (by walk_at "MineLt")) (by walk_at "MineTup")))
  k_with "MineSub" => (first | exact fun _ h => h | assumption | (intro p hp; first | (exact List.Mem.tail _ (by assumption)) | (simp only [List.mem_append, List.mem_cons, List.not_mem_nil, or_false] at hp ⊢; grind)))
  k_with "subscriptTail" => ((k_here; (with_reducible show wpAny _ _ (subscriptTail _ _ (Value.ref _) (Value.int _ _)) _ _ _); k_dflt (refine' item_tupleT ?mwt ?mwa ?mwb ?mwc ?mwd ?_; (case mwt => exact News.isTup (by k_asm) (by walk_at "MineMem")); (case mwa => decide); (case mwb => decide); (case mwc => rfl); (case mwd => rfl); k_whole)))
  k_with "MineRoom" => (first | assumption | ktr_room | (dsimp only [ktrTop, Around.deeper, Around.in1] at *; simp only [recursionLimit] at *; omega))
  k_with "MineUnits" => (first | ktr_units | (have hcL9 := cLine_is; dsimp only [ktrTop, Around.deeper, Around.in1] at *; omega))
  k_with "And" => (((with_reducible show WrapAt _ _ ∧ _); k_dflt (refine ⟨WrapAt.of (by k_asm) (by walk_at "MineMemD"), ?_⟩); (try dsimp only [List.nil_append, List.cons_append])))
  k_with "eval Name" => ((k_here; (with_reducible show wpAny _ _ (eval (Expr.Name _ _) (compEnvC _ _ _ _)) _ _ _); k_dflt (first | refine LCgL.ld_own (by k_asm) (by walk_at "MineMem") (by assumption) (by assumption) ?_ | refine LCgL.ld_global (by k_asm) (by k_asm) (by k_asm) (by k_is) ?_ | refine LCgL.ld_built (by k_asm) (by k_asm) (by k_asm) (by k_is) (by boot_by_name) (by decide) ?_)))
  k_with "MineMemD" => ((repeat' (first | assumption | exact List.mem_cons_self | (refine List.mem_cons_of_mem _ ?_) | (refine List.mem_append.mpr (Or.inl ?_)) | fail "MineMemD")))
  k_with "subscriptTail Name Slice ref ref" => ((with_reducible show wpAny _ _ (subscriptTail _ (PySem.Expr.Slice _ _ (some _) _) (Value.ref _) (Value.ref _)) _ _ _); k_dflt (refine' kmk_slice3_lit ?zF2 ?zN2 ?zl2 ?zp2 ?zq2 ?zk2 ?zo2 ?ze2 ?_ ?zs2 ?zt2 ?zz2; (case zF2 => k_asm); (case zN2 => k_asm); (case zl2 => kmk_list); (case zp2 => kmk_part); (case zq2 => kmk_part); (case zk2 => kmk_part); (case zo2 => decide); (case ze2 => exact rfl); (case zs2 => with_unfolding_all rfl); (case zt2 => kmk_pure); (case zz2 => kmk_size)); intro D' h' F' N' l1; generalize hpk : Array.toList (slicePick _ _ _ _) = pk at N')
  k_with "CompSrc" => (refine Hid.out ?_)
  k_steps
  unfold Hid
  obtain ⟨ms, hms, hml⟩ := slice_ints hI 1
  rw [hpk] at hms
  clear hpk
  refine src_U (sub := []) (enc := Dat.int) (dec := fun x => codeD (drawnS x)) (ds := ms) (by rfl) F' N' (.head _) (fun _ h => nomatch h) (datAll_ints hms) (by omega) ?turn2 ?fin2
  case' turn2 =>
    clear F' N'
    intro v d I' oI' C oC D m₂ ys' tl' h tk' E' hd' hv hC hx F' N'
    k_with_none
    k_with "MineMem" => (first | (with_reducible assumption) | (with_reducible exact List.mem_cons_self) | ((with_reducible refine List.mem_append.mpr (Or.inl ?_)); walk_at "MineMem") | ((with_reducible refine List.mem_append.mpr (Or.inr ?_)); walk_at "MineMem") | ((with_reducible refine List.mem_cons_of_mem _ ?_); walk_at "MineMem"))
    k_with "eval ListComp" => ((k_here; k_dflt (refine LCg.ListComp_U (F₀ := by k_asm) (by with_unfolding_all rfl) (by decide) (by rfl) (by decide) (by rfl) ?_)))
    k_with "MineItem" => (first | exact DatIn.none | exact DatIn.bool _ | exact DatIn.int _ _ | exact DatIn.str _ _ | assumption | (refine DatIn.mono ?_ (by assumption); (intro p hp; (try simp only [List.mem_append, List.mem_cons] at hp ⊢); grind)))
    k_with "MineLt" => (first | assumption | exact allLt_of (by assumption) | tbn_find | (simp only [AllLt, and_true]; tbn_conj))
    k_with "MineTup" => ((refine DatIn.tuple (List.mem_append.mpr (Or.inr (List.Mem.head _))) ?_; repeat' (first | exact DatAll.nil | refine DatAll.cons ?_ ?_ | walk_at "MineItem")))
    k_with "TurnEnd" => ((refine TurnEnd.intro [(_, _)] (by assumption) (tl1 (by assumption)) (off1 (by walk_at "MineLt")) (by walk_at "MineTup")))
    k_with "MineSub" => (first | exact fun _ h => h | assumption | (intro p hp; first | (exact List.Mem.tail _ (by assumption)) | (simp only [List.mem_append, List.mem_cons, List.not_mem_nil, or_false] at hp ⊢; grind)))
    k_with "subscriptTail" => ((k_here; (with_reducible show wpAny _ _ (subscriptTail _ _ (Value.ref _) (Value.int _ _)) _ _ _); k_dflt (refine' item_tupleT ?mwt ?mwa ?mwb ?mwc ?mwd ?_; (case mwt => exact News.isTup (by k_asm) (by walk_at "MineMem")); (case mwa => decide); (case mwb => decide); (case mwc => rfl); (case mwd => rfl); k_whole)))
    k_with "MineRoom" => (first | assumption | ktr_room | (dsimp only [ktrTop, Around.deeper, Around.in1] at *; simp only [recursionLimit] at *; omega))
    k_with "MineUnits" => (first | ktr_units | (have hcL9 := cLine_is; dsimp only [ktrTop, Around.deeper, Around.in1] at *; omega))
    k_with "And" => (((with_reducible show WrapAt _ _ ∧ _); k_dflt (refine ⟨WrapAt.of (by k_asm) (by walk_at "MineMemD"), ?_⟩); (try dsimp only [List.nil_append, List.cons_append])))
    k_with "eval Name" => ((k_here; (with_reducible show wpAny _ _ (eval (Expr.Name _ _) (compEnvC _ _ _ _)) _ _ _); k_dflt (first | refine LCgL.ld_own (by k_asm) (by walk_at "MineMem") (by assumption) (by assumption) ?_ | refine LCgL.ld_global (by k_asm) (by k_asm) (by k_asm) (by k_is) ?_ | refine LCgL.ld_built (by k_asm) (by k_asm) (by k_asm) (by k_is) (by boot_by_name) (by decide) ?_)))
    k_with "MineMemD" => ((repeat' (first | assumption | exact List.mem_cons_self | (refine List.mem_cons_of_mem _ ?_) | (refine List.mem_append.mpr (Or.inl ?_)) | fail "MineMemD")))
    k_with "call ref" => (refine Hid.out ?_)
    k_steps
    unfold Hid
    refine' tel_use (sub := []) (drawn_tel d) (by k_asm) (by k_asm) (by k_asm) (by k_asm) (by k_asm) (by first | exact rfl | assumption) (fun _ h => nomatch h) (DatAll.cons (datIn_flat hv rfl) .nil) (by walk_at "MineRoom") (by walk_at "MineUnits") ?_
    intro r8 tl8 h8 tk8 F8 N8 o8 D8
    exact ⟨h8, tk8, tl8, rfl, F8, N8, o8, DatIn.mono (fun p hp => List.mem_append.mpr (.inr hp)) D8⟩
  case' fin2 =>
  intro g2 ys2 e2 o2 D2
  clear F' N'
  intro S2 h2 tk2 F2 N2 l2
  dsimp only
  k_with_none
  k_with "MineMem" => (first | (with_reducible assumption) | (with_reducible exact List.mem_cons_self) | ((with_reducible refine List.mem_append.mpr (Or.inl ?_)); walk_at "MineMem") | ((with_reducible refine List.mem_append.mpr (Or.inr ?_)); walk_at "MineMem") | ((with_reducible refine List.mem_cons_of_mem _ ?_); walk_at "MineMem"))
  k_with "eval ListComp" => ((k_here; k_dflt (refine LCg.ListComp_U (F₀ := by k_asm) (by with_unfolding_all rfl) (by decide) (by rfl) (by decide) (by rfl) ?_)))
  k_with "MineItem" => (first | exact DatIn.none | exact DatIn.bool _ | exact DatIn.int _ _ | exact DatIn.str _ _ | assumption | (refine DatIn.mono ?_ (by assumption); (intro p hp; (try simp only [List.mem_append, List.mem_cons] at hp ⊢); grind)))
  k_with "MineLt" => (first | assumption | exact allLt_of (by assumption) | tbn_find | (simp only [AllLt, and_true]; tbn_conj))
  k_with "MineTup" => ((refine DatIn.tuple (List.mem_append.mpr (Or.inr (List.Mem.head _))) ?_; repeat' (first | exact DatAll.nil | refine DatAll.cons ?_ ?_ | walk_at "MineItem")))
  k_with "TurnEnd" => ((refine TurnEnd.intro [(_, _)] (by assumption) (tl1 (by assumption)) (off1 (by walk_at "MineLt")) (by walk_at "MineTup")))
  k_with "MineSub" => (first | exact fun _ h => h | assumption | (intro p hp; first | (exact List.Mem.tail _ (by assumption)) | (simp only [List.mem_append, List.mem_cons, List.not_mem_nil, or_false] at hp ⊢; grind)))
  k_with "subscriptTail" => ((k_here; (with_reducible show wpAny _ _ (subscriptTail _ _ (Value.ref _) (Value.int _ _)) _ _ _); k_dflt (refine' item_tupleT ?mwt ?mwa ?mwb ?mwc ?mwd ?_; (case mwt => exact News.isTup (by k_asm) (by walk_at "MineMem")); (case mwa => decide); (case mwb => decide); (case mwc => rfl); (case mwd => rfl); k_whole)))
  k_with "MineRoom" => (first | assumption | ktr_room | (dsimp only [ktrTop, Around.deeper, Around.in1] at *; simp only [recursionLimit] at *; omega))
  k_with "MineUnits" => (first | ktr_units | (have hcL9 := cLine_is; dsimp only [ktrTop, Around.deeper, Around.in1] at *; omega))
  k_with "And" => (((with_reducible show WrapAt _ _ ∧ _); k_dflt (refine ⟨WrapAt.of (by k_asm) (by walk_at "MineMemD"), ?_⟩); (try dsimp only [List.nil_append, List.cons_append])))
  k_with "eval Name" => ((k_here; (with_reducible show wpAny _ _ (eval (Expr.Name _ _) (compEnvC _ _ _ _)) _ _ _); k_dflt (first | refine LCgL.ld_own (by k_asm) (by walk_at "MineMem") (by assumption) (by assumption) ?_ | refine LCgL.ld_global (by k_asm) (by k_asm) (by k_asm) (by k_is) ?_ | refine LCgL.ld_built (by k_asm) (by k_asm) (by k_asm) (by k_is) (by boot_by_name) (by decide) ?_)))
  k_with "MineMemD" => ((repeat' (first | assumption | exact List.mem_cons_self | (refine List.mem_cons_of_mem _ ?_) | (refine List.mem_append.mpr (Or.inl ?_)) | fail "MineMemD")))
  k_with "binaryOp Add ref ref" => (refine Hid.out ?_)
  k_steps
  rename_i T3 h3x l3a S3 h3y F3 N3 l3b
  unfold Hid
  have hD4 : DatAll ((T3, ({ cls := .type "tuple", data := .seq #[.int 9 tk2, .int 0 (tk2 + 1), .int 0 (tk2 + 1 + 1)] } : Obj)) :: e2) (ys2 ++ [.ref T3]) ((ms.map drawnS ++ [(9, 0, 0)]).map codeD) := by
    rw [List.map_append, List.map_map]
    refine DatAll.append (DatAll.mono (fun p hp => .tail _ hp) D2) (.one (DatIn.tuple (.head _) (.cons (.int _ _) (.cons (.int _ _) (.cons (.int _ _) .nil)))))
  obtain ⟨c2, hc2⟩ : ∃ c, c = ms.map drawnS ++ [((9, 0, 0) : Code3)] := ⟨_, rfl⟩
  have hc2l : c2.length ≤ 6 := by rw [hc2]; simp; omega
  have hc2d : ∀ c ∈ c2, c ∈ drawnAll := by
    rw [hc2]
    intro c h
    rcases List.mem_append.mp h with h | h
    · obtain ⟨x, _, rfl⟩ := List.mem_map.mp h; exact drawn_mem x
    · rw [List.mem_singleton.mp h]; decide
  have hc2p : 0 < c2.length := by rw [hc2]; simp
  rw [← hc2] at hD4
  clear hc2
  refine add_arr (vs := ys2) (ws := [.ref T3]) F3 N3 (isL N3 (.tail _ (.tail _ (.head _)))) (isL N3 (.head _)) (by have q := D2.length; rw [List.length_map] at q; omega) (by show 1 ≤ 1000; decide) ?_
  intro SC2 h4 F4 N4 l4
  obtain ⟨E2, hE2⟩ : ∃ e : List (Addr × Obj), e = (SC2, W.listOf (ys2 ++ [Value.ref T3]).toArray 0) :: (S3, W.listOf #[Value.ref T3] 0) :: (T3, { cls := .type "tuple", data := .seq #[.int 9 tk2, .int 0 (tk2 + 1), .int 0 (tk2 + 1 + 1)] }) :: (S2, LCg.lst ys2) :: (D', W.listOf pk.toArray 0) :: e2 := ⟨_, rfl⟩
  have N4' : News s₁.heap s₁.heap.objs.size h4 ((cs0 ++ E1 ++ er1) ++ E2) := newsIn N4 (by
    subst hE2
    intro p hp
    simp only [List.mem_append, List.mem_cons, List.not_mem_nil, or_false] at hp ⊢
    grind)
  have off2 : ∀ q ∈ (cs0 ++ E1 ++ er1), ∀ p ∈ E2, p.1 ≠ q.1 := by
    intro q hq p hp
    rw [hE2] at hp
    rcases List.mem_cons.mp hp with rfl | hp
    · exact Nat.ne_of_gt (l4 q (.tail _ (.tail _ (.tail _ (.tail _ (List.mem_append.mpr (.inl hq)))))))
    rcases List.mem_cons.mp hp with rfl | hp
    · exact Nat.ne_of_gt (ktn_ltOf l3b.2.2 q (.tail _ (List.mem_append.mpr (.inl hq))))
    rcases List.mem_cons.mp hp with rfl | hp
    · exact Nat.ne_of_gt (ktn_ltOf l3a.2 q (.tail _ (List.mem_append.mpr (.inl hq))))
    rcases List.mem_cons.mp hp with rfl | hp
    · exact (off1_lt l2 q (.tail _ (List.mem_append.mpr (.inl hq)))).symm
    rcases List.mem_cons.mp hp with rfl | hp
    · exact Nat.ne_of_gt (l1 q hq)
    · exact o2 q (.tail _ hq) p hp
  have hS4_2 : (SC2, W.listOf (ys2 ++ [Value.ref T3]).toArray 0) ∈ E2 := by rw [hE2]; exact .head _
  have hD4_2 : DatAll E2 (ys2 ++ [Value.ref T3]) (c2.map codeD) := DatAll.mono (by
    subst hE2
    intro p hp
    simp only [List.mem_cons] at hp ⊢
    grind) hD4
  clear N4 N3 l4 l3a l3b l2 o2 D2 hD4 F3 hE2 l1
  obtain ⟨vc2, hvc2⟩ : ∃ v, v = ys2 ++ [Value.ref T3] := ⟨_, rfl⟩
  rw [← hvc2] at hS4_2 hD4_2
  clear hvc2
  k_with_none
  k_with "MineMem" => (first | (with_reducible assumption) | (with_reducible exact List.mem_cons_self) | ((with_reducible refine List.mem_append.mpr (Or.inl ?_)); walk_at "MineMem") | ((with_reducible refine List.mem_append.mpr (Or.inr ?_)); walk_at "MineMem") | ((with_reducible refine List.mem_cons_of_mem _ ?_); walk_at "MineMem"))
  k_with "eval ListComp" => ((k_here; k_dflt (refine LCg.ListComp_U (F₀ := by k_asm) (by with_unfolding_all rfl) (by decide) (by rfl) (by decide) (by rfl) ?_)))
  k_with "MineItem" => (first | exact DatIn.none | exact DatIn.bool _ | exact DatIn.int _ _ | exact DatIn.str _ _ | assumption | (refine DatIn.mono ?_ (by assumption); (intro p hp; (try simp only [List.mem_append, List.mem_cons] at hp ⊢); grind)))
  k_with "MineLt" => (first | assumption | exact allLt_of (by assumption) | tbn_find | (simp only [AllLt, and_true]; tbn_conj))
  k_with "MineTup" => ((refine DatIn.tuple (List.mem_append.mpr (Or.inr (List.Mem.head _))) ?_; repeat' (first | exact DatAll.nil | refine DatAll.cons ?_ ?_ | walk_at "MineItem")))
  k_with "TurnEnd" => ((refine TurnEnd.intro [(_, _)] (by assumption) (tl1 (by assumption)) (off1 (by walk_at "MineLt")) (by walk_at "MineTup")))
  k_with "MineSub" => (first | exact fun _ h => h | assumption | (intro p hp; first | (exact List.Mem.tail _ (by assumption)) | (simp only [List.mem_append, List.mem_cons, List.not_mem_nil, or_false] at hp ⊢; grind)))
  k_with "subscriptTail" => ((k_here; (with_reducible show wpAny _ _ (subscriptTail _ _ (Value.ref _) (Value.int _ _)) _ _ _); k_dflt (refine' item_tupleT ?mwt ?mwa ?mwb ?mwc ?mwd ?_; (case mwt => exact News.isTup (by k_asm) (by walk_at "MineMem")); (case mwa => decide); (case mwb => decide); (case mwc => rfl); (case mwd => rfl); k_whole)))
  k_with "MineRoom" => (first | assumption | ktr_room | (dsimp only [ktrTop, Around.deeper, Around.in1] at *; simp only [recursionLimit] at *; omega))
  k_with "MineUnits" => (first | ktr_units | (have hcL9 := cLine_is; dsimp only [ktrTop, Around.deeper, Around.in1] at *; omega))
  k_with "And" => (((with_reducible show WrapAt _ _ ∧ _); k_dflt (refine ⟨WrapAt.of (by k_asm) (by walk_at "MineMemD"), ?_⟩); (try dsimp only [List.nil_append, List.cons_append])))
  k_with "eval Name" => ((k_here; (with_reducible show wpAny _ _ (eval (Expr.Name _ _) (compEnvC _ _ _ _)) _ _ _); k_dflt (first | refine LCgL.ld_own (by k_asm) (by walk_at "MineMem") (by assumption) (by assumption) ?_ | refine LCgL.ld_global (by k_asm) (by k_asm) (by k_asm) (by k_is) ?_ | refine LCgL.ld_built (by k_asm) (by k_asm) (by k_asm) (by k_is) (by boot_by_name) (by decide) ?_)))
  k_with "MineMemD" => ((repeat' (first | assumption | exact List.mem_cons_self | (refine List.mem_cons_of_mem _ ?_) | (refine List.mem_append.mpr (Or.inl ?_)) | fail "MineMemD")))
  k_with "call ref" => (refine Hid.out ?_)
  k_steps
  rename News _ _ _ _ => N4x
  rename Fr _ _ _ _ => F4x
  unfold Hid
  refine' tel_use (sub := E2) (rows_tel c2 hc2d hc2l) (by k_asm) (by k_asm) (by k_asm) (by k_asm) (by k_asm) (by first | exact rfl | assumption) (fun p hp => List.mem_append.mpr (.inr hp)) (DatAll.cons (DatIn.list hS4_2 hD4_2) .nil) (by walk_at "MineRoom") (by walk_at "MineUnits") ?_
  intro r2 er2 h5 tk5 F5 N5 or2 Dr2
  clear F4x N4x
  dsimp only
  k_with_none
  k_with "MineMem" => (first | (with_reducible assumption) | (with_reducible exact List.mem_cons_self) | ((with_reducible refine List.mem_append.mpr (Or.inl ?_)); walk_at "MineMem") | ((with_reducible refine List.mem_append.mpr (Or.inr ?_)); walk_at "MineMem") | ((with_reducible refine List.mem_cons_of_mem _ ?_); walk_at "MineMem"))
  k_with "eval ListComp" => ((k_here; k_dflt (refine LCg.ListComp_U (F₀ := by k_asm) (by with_unfolding_all rfl) (by decide) (by rfl) (by decide) (by rfl) ?_)))
  k_with "MineItem" => (first | exact DatIn.none | exact DatIn.bool _ | exact DatIn.int _ _ | exact DatIn.str _ _ | assumption | (refine DatIn.mono ?_ (by assumption); (intro p hp; (try simp only [List.mem_append, List.mem_cons] at hp ⊢); grind)))
  k_with "MineLt" => (first | assumption | exact allLt_of (by assumption) | tbn_find | (simp only [AllLt, and_true]; tbn_conj))
  k_with "MineTup" => ((refine DatIn.tuple (List.mem_append.mpr (Or.inr (List.Mem.head _))) ?_; repeat' (first | exact DatAll.nil | refine DatAll.cons ?_ ?_ | walk_at "MineItem")))
  k_with "TurnEnd" => ((refine TurnEnd.intro [(_, _)] (by assumption) (tl1 (by assumption)) (off1 (by walk_at "MineLt")) (by walk_at "MineTup")))
  k_with "MineSub" => (first | exact fun _ h => h | assumption | (intro p hp; first | (exact List.Mem.tail _ (by assumption)) | (simp only [List.mem_append, List.mem_cons, List.not_mem_nil, or_false] at hp ⊢; grind)))
  k_with "subscriptTail" => ((k_here; (with_reducible show wpAny _ _ (subscriptTail _ _ (Value.ref _) (Value.int _ _)) _ _ _); k_dflt (refine' item_tupleT ?mwt ?mwa ?mwb ?mwc ?mwd ?_; (case mwt => exact News.isTup (by k_asm) (by walk_at "MineMem")); (case mwa => decide); (case mwb => decide); (case mwc => rfl); (case mwd => rfl); k_whole)))
  k_with "MineRoom" => (first | assumption | ktr_room | (dsimp only [ktrTop, Around.deeper, Around.in1] at *; simp only [recursionLimit] at *; omega))
  k_with "MineUnits" => (first | ktr_units | (have hcL9 := cLine_is; dsimp only [ktrTop, Around.deeper, Around.in1] at *; omega))
  k_with "And" => (((with_reducible show WrapAt _ _ ∧ _); k_dflt (refine ⟨WrapAt.of (by k_asm) (by walk_at "MineMemD"), ?_⟩); (try dsimp only [List.nil_append, List.cons_append])))
  k_with "eval Name" => ((k_here; (with_reducible show wpAny _ _ (eval (Expr.Name _ _) (compEnvC _ _ _ _)) _ _ _); k_dflt (first | refine LCgL.ld_own (by k_asm) (by walk_at "MineMem") (by assumption) (by assumption) ?_ | refine LCgL.ld_global (by k_asm) (by k_asm) (by k_asm) (by k_is) ?_ | refine LCgL.ld_built (by k_asm) (by k_asm) (by k_asm) (by k_is) (by boot_by_name) (by decide) ?_)))
  k_with "MineMemD" => ((repeat' (first | assumption | exact List.mem_cons_self | (refine List.mem_cons_of_mem _ ?_) | (refine List.mem_append.mpr (Or.inl ?_)) | fail "MineMemD")))
  k_with "compareOp Eq" => (refine Hid.out ?_)
  k_steps
  rename News _ _ _ _ => N7
  unfold Hid
  refine' d_eq (db := .list []) (n₂ := _) N7 Dr1 ?s1 (DatIn.list (List.Mem.head _) .nil) (fun _ h => h) (rows_okD hc1d) rfl ?u1 ?_
  case s1 => intro p hp; simp only [List.mem_append, List.mem_cons] at hp ⊢; grind
  case u1 => first | units_room | walk_at "MineUnits"
  rw [rows_nil]
  k_steps
  rename News _ _ _ _ => N8
  unfold Hid
  refine' d_eq (db := .list []) (n₂ := _) N8 Dr2 ?s2 (DatIn.list (List.Mem.head _) .nil) (fun _ h => h) (rows_okD hc2d) rfl ?u2 ?_
  case s2 => intro p hp; simp only [List.mem_append, List.mem_cons] at hp ⊢; grind
  case u2 => first | units_room | walk_at "MineUnits"
  rw [rows_nil]
  k_with "exec For Tuple Name cons nil" => (refine Hid.out ?_)
  k_steps
  rename Fr _ _ _ _ => F9
  unfold Hid
  obtain ⟨B, hB⟩ : ∃ b, b = E1 ++ er1 ++ E2 ++ er2 := ⟨_, rfl⟩
  have offB : ∀ p ∈ B, p.1 ≠ s₁.heap.objs.size + 1 ∧ p.1 ≠ s₁.heap.objs.size + 1 + 1 ∧ p.1 ≠ s₁.heap.objs.size + 1 + 1 + 1 := by
    intro p hp
    have key : ∀ q ∈ cs0, p.1 ≠ q.1 := by
      intro q hq
      rw [hB] at hp
      simp only [List.mem_append] at hp
      rcases hp with ((hp | hp) | hp) | hp
      · exact off1 q hq p hp
      · exact or1 q (List.mem_append.mpr (.inl hq)) p hp
      · exact off2 q (List.mem_append.mpr (.inl (List.mem_append.mpr (.inl hq)))) p hp
      · exact or2 q (List.mem_append.mpr (.inl (List.mem_append.mpr (.inl (List.mem_append.mpr (.inl hq)))))) p hp
    rw [hcs0] at key
    exact ⟨key (_, oc1) (.tail _ (.tail _ (.head _))), key (_, oc2) (.tail _ (.head _)), key (_, oc3) (.head _)⟩
  have N9 : News s₁.heap s₁.heap.objs.size _ ((s₁.heap.objs.size + 1, oc1) :: (s₁.heap.objs.size + 1 + 1, oc2) :: (s₁.heap.objs.size + 1 + 1 + 1, oc3) :: (B ++ [])) := newsIn N8 (by
    subst hB hcs0
    intro p hp
    simp only [List.mem_append, List.mem_cons, List.not_mem_nil, or_false] at hp ⊢
    grind)
  have DB1 : DatIn B r1 (rowsD c1) := Dr1.mono (by subst hB; intro p hp; simp only [List.mem_append] at hp ⊢; grind)
  have DB2 : DatIn B r2 (rowsD c2) := Dr2.mono (by subst hB; intro p hp; simp only [List.mem_append] at hp ⊢; grind)
  have DC1 : DatIn B (.ref SC1) (.list (c1.map codeD)) := (DatIn.list hS4_1 hD4_1).mono (by subst hB; intro p hp; simp only [List.mem_append]; grind)
  clear N8 Dr1 Dr2 hS4_1 hD4_1 hS4_2 hD4_2 off1 off2 or1 or2 hB hcs0
  unfold rowsD at DB1 DB2
  cases DB1 with
  | list hm1 hD1 =>
  rename_i a1 vs1 n1
  cases DB2 with
  | list hm2 hD2 =>
  rename_i a2 vs2 n2
  k_with_none
  k_with "MineMem" => (first | (with_reducible assumption) | (with_reducible exact List.mem_cons_self) | ((with_reducible refine List.mem_append.mpr (Or.inl ?_)); walk_at "MineMem") | ((with_reducible refine List.mem_append.mpr (Or.inr ?_)); walk_at "MineMem") | ((with_reducible refine List.mem_cons_of_mem _ ?_); walk_at "MineMem"))
  k_with "eval ListComp" => ((k_here; k_dflt (refine LCg.ListComp_U (F₀ := by k_asm) (by with_unfolding_all rfl) (by decide) (by rfl) (by decide) (by rfl) ?_)))
  k_with "MineItem" => (first | exact DatIn.none | exact DatIn.bool _ | exact DatIn.int _ _ | exact DatIn.str _ _ | assumption | (refine DatIn.mono ?_ (by assumption); (intro p hp; (try simp only [List.mem_append, List.mem_cons] at hp ⊢); grind)))
  k_with "MineLt" => (first | assumption | exact allLt_of (by assumption) | tbn_find | (simp only [AllLt, and_true]; tbn_conj))
  k_with "MineTup" => ((refine DatIn.tuple (List.mem_append.mpr (Or.inr (List.Mem.head _))) ?_; repeat' (first | exact DatAll.nil | refine DatAll.cons ?_ ?_ | walk_at "MineItem")))
  k_with "TurnEnd" => ((refine TurnEnd.intro [(_, _)] (by assumption) (tl1 (by assumption)) (off1 (by walk_at "MineLt")) (by walk_at "MineTup")))
  k_with "MineSub" => (first | exact fun _ h => h | assumption | (intro p hp; first | (exact List.Mem.tail _ (by assumption)) | (simp only [List.mem_append, List.mem_cons, List.not_mem_nil, or_false] at hp ⊢; grind)))
  k_with "subscriptTail" => ((k_here; (with_reducible show wpAny _ _ (subscriptTail _ _ (Value.ref _) (Value.int _ _)) _ _ _); k_dflt (refine' item_tupleT ?mwt ?mwa ?mwb ?mwc ?mwd ?_; (case mwt => exact News.isTup (by k_asm) (by walk_at "MineMem")); (case mwa => decide); (case mwb => decide); (case mwc => rfl); (case mwd => rfl); k_whole)))
  k_with "MineRoom" => (first | assumption | ktr_room | (dsimp only [ktrTop, Around.deeper, Around.in1] at *; simp only [recursionLimit] at *; omega))
  k_with "MineUnits" => (first | ktr_units | (have hcL9 := cLine_is; dsimp only [ktrTop, Around.deeper, Around.in1] at *; omega))
  k_with "And" => (((with_reducible show WrapAt _ _ ∧ _); k_dflt (refine ⟨WrapAt.of (by k_asm) (by walk_at "MineMemD"), ?_⟩); (try dsimp only [List.nil_append, List.cons_append])))
  k_with "eval Name" => ((k_here; (with_reducible show wpAny _ _ (eval (Expr.Name _ _) (compEnvC _ _ _ _)) _ _ _); k_dflt (first | refine LCgL.ld_own (by k_asm) (by walk_at "MineMem") (by assumption) (by assumption) ?_ | refine LCgL.ld_global (by k_asm) (by k_asm) (by k_asm) (by k_is) ?_ | refine LCgL.ld_built (by k_asm) (by k_asm) (by k_asm) (by k_is) (by boot_by_name) (by decide) ?_)))
  k_with "MineMemD" => ((repeat' (first | assumption | exact List.mem_cons_self | (refine List.mem_cons_of_mem _ ?_) | (refine List.mem_append.mpr (Or.inl ?_)) | fail "MineMemD")))
  refine seq_for F9 rfl ?_
  k_steps
  refine ⟨false, a1, _, _, _, _, _, rfl, rfl, rfl, F9, N9, .tail _ (.tail _ (.tail _ (List.mem_append.mpr (.inl hm1)))), ?_⟩
  refine seq_gen (Inv := OutInv s₁.heap.objs.size B (.ref a2) (.ref SC1) (.ref scr) c1) ?_ ?_
  · exact ⟨forms, hD1, oc1, oc2, oc3, _, _, _, [], rfl, dc1, dc2, dc3, trivial, trivial, (by rw [List.nil_append, List.append_nil]; exact offB), (fun _ h => nomatch h), by rfl, by rfl, by rfl⟩
  clear F9 N9
  rintro vals i m' led ⟨todo, hvals, o1, o2, o3, v1, v2, v3, E, rfl, d1, d2, d3, -, -, offE, -, g1, g2, g3⟩
  induction todo generalizing vals o1 o2 o3 v1 v2 v3 E i m' with
  | nil =>
    cases hvals
    intro h10 tk10 F10 N10
    k_with_none
    k_with "MineMem" => (first | (with_reducible assumption) | (with_reducible exact List.mem_cons_self) | ((with_reducible refine List.mem_append.mpr (Or.inl ?_)); walk_at "MineMem") | ((with_reducible refine List.mem_append.mpr (Or.inr ?_)); walk_at "MineMem") | ((with_reducible refine List.mem_cons_of_mem _ ?_); walk_at "MineMem"))
    k_with "eval ListComp" => ((k_here; k_dflt (refine LCg.ListComp_U (F₀ := by k_asm) (by with_unfolding_all rfl) (by decide) (by rfl) (by decide) (by rfl) ?_)))
    k_with "MineItem" => (first | exact DatIn.none | exact DatIn.bool _ | exact DatIn.int _ _ | exact DatIn.str _ _ | assumption | (refine DatIn.mono ?_ (by assumption); (intro p hp; (try simp only [List.mem_append, List.mem_cons] at hp ⊢); grind)))
    k_with "MineLt" => (first | assumption | exact allLt_of (by assumption) | tbn_find | (simp only [AllLt, and_true]; tbn_conj))
    k_with "MineTup" => ((refine DatIn.tuple (List.mem_append.mpr (Or.inr (List.Mem.head _))) ?_; repeat' (first | exact DatAll.nil | refine DatAll.cons ?_ ?_ | walk_at "MineItem")))
    k_with "TurnEnd" => ((refine TurnEnd.intro [(_, _)] (by assumption) (tl1 (by assumption)) (off1 (by walk_at "MineLt")) (by walk_at "MineTup")))
    k_with "MineSub" => (first | exact fun _ h => h | assumption | (intro p hp; first | (exact List.Mem.tail _ (by assumption)) | (simp only [List.mem_append, List.mem_cons, List.not_mem_nil, or_false] at hp ⊢; grind)))
    k_with "subscriptTail" => ((k_here; (with_reducible show wpAny _ _ (subscriptTail _ _ (Value.ref _) (Value.int _ _)) _ _ _); k_dflt (refine' item_tupleT ?mwt ?mwa ?mwb ?mwc ?mwd ?_; (case mwt => exact News.isTup (by k_asm) (by walk_at "MineMem")); (case mwa => decide); (case mwb => decide); (case mwc => rfl); (case mwd => rfl); k_whole)))
    k_with "MineRoom" => (first | assumption | ktr_room | (dsimp only [ktrTop, Around.deeper, Around.in1] at *; simp only [recursionLimit] at *; omega))
    k_with "MineUnits" => (first | ktr_units | (have hcL9 := cLine_is; dsimp only [ktrTop, Around.deeper, Around.in1] at *; omega))
    k_with "And" => (((with_reducible show WrapAt _ _ ∧ _); k_dflt (refine ⟨WrapAt.of (by k_asm) (by walk_at "MineMemD"), ?_⟩); (try dsimp only [List.nil_append, List.cons_append])))
    k_with "eval Name" => ((k_here; (with_reducible show wpAny _ _ (eval (Expr.Name _ _) (compEnvC _ _ _ _)) _ _ _); k_dflt (first | refine LCgL.ld_own (by k_asm) (by walk_at "MineMem") (by assumption) (by assumption) ?_ | refine LCgL.ld_global (by k_asm) (by k_asm) (by k_asm) (by k_is) ?_ | refine LCgL.ld_built (by k_asm) (by k_asm) (by k_asm) (by k_is) (by boot_by_name) (by decide) ?_)))
    k_with "MineMemD" => ((repeat' (first | assumption | exact List.mem_cons_self | (refine List.mem_cons_of_mem _ ?_) | (refine List.mem_append.mpr (Or.inl ?_)) | fail "MineMemD")))
    k_with "eval Name" => ((with_reducible show wpAny _ _ (eval (Expr.Name _ _) (envOfC _ _ _ _ _)) _ _ _); k_dflt (refine nameX_L F10 (by first | exact g2 | exact g3) ?_ (by rfl) (by rfl)))
    k_with "subscriptTail Name Constant ref int" => (refine Hid.out ?_)
    k_with "call ref" => (refine Hid.out ?_)
    k_steps
    unfold Hid
    cases DC1 with
    | list hmC hDC =>
    rename_i cv cvn
    have hcl0 : 0 < cv.length := by have q := hDC.length; rw [List.length_map] at q; omega
    obtain ⟨c, hc, hDv⟩ := datAll_get hDC (List.getElem?_eq_getElem hcl0)
    have hcd : c ∈ drawnAll := hc1d c (List.mem_of_getElem? hc)
    have hsh := drawn_shape hcd
    refine item_list (x := cv[0]) (isL N10 (.tail _ (.tail _ (.tail _ (List.mem_append.mpr (.inr (List.mem_append.mpr (.inl hmC)))))))) (by decide) (by decide) (by simp [hcl0]) ?_
    k_steps
    unfold Hid
    refine' tel_use (sub := B) (thing_tel c hsh.1 hsh.2.1 hsh.2.2.1 hsh.2.2.2.1 (by omega)) (by k_asm) (by k_asm) (by k_asm) (by k_asm) (by k_asm) (by first | exact rfl | assumption) (fun p hp => .tail _ (.tail _ (.tail _ (List.mem_append.mpr (.inr (List.mem_append.mpr (.inl hp))))))) (DatAll.cons hDv .nil) (by walk_at "MineRoom") (by walk_at "MineUnits") ?_
    intro r30 e30 h30 tk30 F30 N30 o30 D30
    clear F10 N10
    dsimp only
    k_with_none
    k_with "MineMem" => (first | (with_reducible assumption) | (with_reducible exact List.mem_cons_self) | ((with_reducible refine List.mem_append.mpr (Or.inl ?_)); walk_at "MineMem") | ((with_reducible refine List.mem_append.mpr (Or.inr ?_)); walk_at "MineMem") | ((with_reducible refine List.mem_cons_of_mem _ ?_); walk_at "MineMem"))
    k_with "eval ListComp" => ((k_here; k_dflt (refine LCg.ListComp_U (F₀ := by k_asm) (by with_unfolding_all rfl) (by decide) (by rfl) (by decide) (by rfl) ?_)))
    k_with "MineItem" => (first | exact DatIn.none | exact DatIn.bool _ | exact DatIn.int _ _ | exact DatIn.str _ _ | assumption | (refine DatIn.mono ?_ (by assumption); (intro p hp; (try simp only [List.mem_append, List.mem_cons] at hp ⊢); grind)))
    k_with "MineLt" => (first | assumption | exact allLt_of (by assumption) | tbn_find | (simp only [AllLt, and_true]; tbn_conj))
    k_with "MineTup" => ((refine DatIn.tuple (List.mem_append.mpr (Or.inr (List.Mem.head _))) ?_; repeat' (first | exact DatAll.nil | refine DatAll.cons ?_ ?_ | walk_at "MineItem")))
    k_with "TurnEnd" => ((refine TurnEnd.intro [(_, _)] (by assumption) (tl1 (by assumption)) (off1 (by walk_at "MineLt")) (by walk_at "MineTup")))
    k_with "MineSub" => (first | exact fun _ h => h | assumption | (intro p hp; first | (exact List.Mem.tail _ (by assumption)) | (simp only [List.mem_append, List.mem_cons, List.not_mem_nil, or_false] at hp ⊢; grind)))
    k_with "subscriptTail" => ((k_here; (with_reducible show wpAny _ _ (subscriptTail _ _ (Value.ref _) (Value.int _ _)) _ _ _); k_dflt (refine' item_tupleT ?mwt ?mwa ?mwb ?mwc ?mwd ?_; (case mwt => exact News.isTup (by k_asm) (by walk_at "MineMem")); (case mwa => decide); (case mwb => decide); (case mwc => rfl); (case mwd => rfl); k_whole)))
    k_with "MineRoom" => (first | assumption | ktr_room | (dsimp only [ktrTop, Around.deeper, Around.in1] at *; simp only [recursionLimit] at *; omega))
    k_with "MineUnits" => (first | ktr_units | (have hcL9 := cLine_is; dsimp only [ktrTop, Around.deeper, Around.in1] at *; omega))
    k_with "And" => (((with_reducible show WrapAt _ _ ∧ _); k_dflt (refine ⟨WrapAt.of (by k_asm) (by walk_at "MineMemD"), ?_⟩); (try dsimp only [List.nil_append, List.cons_append])))
    k_with "eval Name" => ((k_here; (with_reducible show wpAny _ _ (eval (Expr.Name _ _) (compEnvC _ _ _ _)) _ _ _); k_dflt (first | refine LCgL.ld_own (by k_asm) (by walk_at "MineMem") (by assumption) (by assumption) ?_ | refine LCgL.ld_global (by k_asm) (by k_asm) (by k_asm) (by k_is) ?_ | refine LCgL.ld_built (by k_asm) (by k_asm) (by k_asm) (by k_is) (by boot_by_name) (by decide) ?_)))
    k_with "MineMemD" => ((repeat' (first | assumption | exact List.mem_cons_self | (refine List.mem_cons_of_mem _ ?_) | (refine List.mem_append.mpr (Or.inl ?_)) | fail "MineMemD")))
    k_with "eval Name" => ((with_reducible show wpAny _ _ (eval (Expr.Name _ _) (envOfC _ _ _ _ _)) _ _ _); k_dflt (refine nameX_L (by k_asm) g3 ?_ (by rfl) (by rfl)))
    k_with "call ref" => (refine Hid.out ?_)
    k_with "call builtin:len" => (refine Hid.out ?_)
    k_steps
    rename Fr _ _ _ _ => F31
    rename News _ _ _ _ => N31
    unfold Hid
    have hLs : svs.length = _ := IntsAre.length hI
    refine len_list (items := svs.toArray) (by obtain ⟨oo, q1, q2, q3⟩ := hL0; exact ⟨oo, F31.keep _ _ q1, q2, q3⟩) (by rw [List.size_toArray]; omega) ?_
    generalize hnn : svs.toArray.size = nn
    have hnn2 : nn ≤ 63 := by rw [List.size_toArray] at hnn; omega
    k_with "binaryOp Mod int int" => (refine Hid.out ?_)
    k_steps
    unfold Hid
    refine mod_int' (by decide) ?_
    have h1 := Int.fmod_nonneg_of_pos (nn : Int) (by decide : (0 : Int) < 4)
    have h2 := Int.fmod_lt_of_pos (nn : Int) (by decide : (0 : Int) < 4)
    generalize Int.fmod (nn : Int) 4 = kk at h1 h2 ⊢
    obtain ⟨jj, xs, tt, ys, hj, hx, hx1, hx2, hx3, hfm, hyl⟩ : ∃ (jj : Nat) (xs : Str) (tt : Tok) (ys : Str), seqIndex? kk 4 = some jj ∧ [Value.str (Str.ofString "") tk30, Value.str (Str.ofString "S") (tk30 + 1), Value.str (Str.ofString "rr") (tk30 + 1 + 1), Value.str (Str.ofString "x") (tk30 + 1 + 1 + 1)][jj]? = some (.str xs tt) ∧
        (xs == Str.ofString "s") = false ∧ (xs == Str.ofString "r") = false ∧ (xs == Str.ofString "a") = false ∧ (∀ t u, Builtin.«str.format» ⟨[.str (Str.ofString "Unknown conversion specifier {0!s}") t, .str xs u], []⟩ = retStr ys) ∧ ys.length ≤ sizeLine := by
      have hkv : kk = 0 ∨ kk = 1 ∨ kk = 2 ∨ kk = 3 := by omega
      rcases hkv with rfl | rfl | rfl | rfl
      · exact ⟨0, _, _, _, rfl, rfl, by decide +kernel, by decide +kernel, by decide +kernel, fmt_e, by decide +kernel⟩
      · exact ⟨1, _, _, _, rfl, rfl, by decide +kernel, by decide +kernel, by decide +kernel, fmt_S, by decide +kernel⟩
      · exact ⟨2, _, _, _, rfl, rfl, by decide +kernel, by decide +kernel, by decide +kernel, fmt_rr, by decide +kernel⟩
      · exact ⟨3, _, _, _, rfl, rfl, by decide +kernel, by decide +kernel, by decide +kernel, fmt_x, by decide +kernel⟩
    dsimp only
    refine item_tupleT (N31.isTup (.head _)) (by omega) (by omega) hj hx ?_
    clear hnn hnn2 hj hx h1 h2
    k_with_none
    k_with "MineMem" => (first | (with_reducible assumption) | (with_reducible exact List.mem_cons_self) | ((with_reducible refine List.mem_append.mpr (Or.inl ?_)); walk_at "MineMem") | ((with_reducible refine List.mem_append.mpr (Or.inr ?_)); walk_at "MineMem") | ((with_reducible refine List.mem_cons_of_mem _ ?_); walk_at "MineMem"))
    k_with "eval ListComp" => ((k_here; k_dflt (refine LCg.ListComp_U (F₀ := by k_asm) (by with_unfolding_all rfl) (by decide) (by rfl) (by decide) (by rfl) ?_)))
    k_with "MineItem" => (first | exact DatIn.none | exact DatIn.bool _ | exact DatIn.int _ _ | exact DatIn.str _ _ | assumption | (refine DatIn.mono ?_ (by assumption); (intro p hp; (try simp only [List.mem_append, List.mem_cons] at hp ⊢); grind)))
    k_with "MineLt" => (first | assumption | exact allLt_of (by assumption) | tbn_find | (simp only [AllLt, and_true]; tbn_conj))
    k_with "MineTup" => ((refine DatIn.tuple (List.mem_append.mpr (Or.inr (List.Mem.head _))) ?_; repeat' (first | exact DatAll.nil | refine DatAll.cons ?_ ?_ | walk_at "MineItem")))
    k_with "TurnEnd" => ((refine TurnEnd.intro [(_, _)] (by assumption) (tl1 (by assumption)) (off1 (by walk_at "MineLt")) (by walk_at "MineTup")))
    k_with "MineSub" => (first | exact fun _ h => h | assumption | (intro p hp; first | (exact List.Mem.tail _ (by assumption)) | (simp only [List.mem_append, List.mem_cons, List.not_mem_nil, or_false] at hp ⊢; grind)))
    k_with "subscriptTail" => ((k_here; (with_reducible show wpAny _ _ (subscriptTail _ _ (Value.ref _) (Value.int _ _)) _ _ _); k_dflt (refine' item_tupleT ?mwt ?mwa ?mwb ?mwc ?mwd ?_; (case mwt => exact News.isTup (by k_asm) (by walk_at "MineMem")); (case mwa => decide); (case mwb => decide); (case mwc => rfl); (case mwd => rfl); k_whole)))
    k_with "MineRoom" => (first | assumption | ktr_room | (dsimp only [ktrTop, Around.deeper, Around.in1] at *; simp only [recursionLimit] at *; omega))
    k_with "MineUnits" => (first | ktr_units | (have hcL9 := cLine_is; dsimp only [ktrTop, Around.deeper, Around.in1] at *; omega))
    k_with "And" => (((with_reducible show WrapAt _ _ ∧ _); k_dflt (refine ⟨WrapAt.of (by k_asm) (by walk_at "MineMemD"), ?_⟩); (try dsimp only [List.nil_append, List.cons_append])))
    k_with "eval Name" => ((k_here; (with_reducible show wpAny _ _ (eval (Expr.Name _ _) (compEnvC _ _ _ _)) _ _ _); k_dflt (first | refine LCgL.ld_own (by k_asm) (by walk_at "MineMem") (by assumption) (by assumption) ?_ | refine LCgL.ld_global (by k_asm) (by k_asm) (by k_asm) (by k_is) ?_ | refine LCgL.ld_built (by k_asm) (by k_asm) (by k_asm) (by k_is) (by boot_by_name) (by decide) ?_)))
    k_with "MineMemD" => ((repeat' (first | assumption | exact List.mem_cons_self | (refine List.mem_cons_of_mem _ ?_) | (refine List.mem_append.mpr (Or.inl ?_)) | fail "MineMemD")))
    k_with "call ref" => ((with_reducible show wpAny _ _ (call (Value.ref 202) _) _ _ _); refine Hid.out ?_)
    k_steps
    unfold Hid
    refine wpAny_call ?_
    k_dflt (refine' code_defSx ?ms1 ?ms2 ?ms3 ?ms4 ?ms5 ?msA ?msF ?msK ?ms6 ?ms7 ?ms8 ?ms9 ?msB ?_ ?msc2 ?msc3 ?msc4 ?msc5; (case msA => first | exact rfl | assumption); (case msF => exact rfl); (case msK => first | exact rfl | assumption); (case ms1 => k_asm); (case ms2 => k_asm); (case ms3 => k_asm); (case ms4 => k_asm); (case ms5 => k_asm); (case ms6 => k_is); (case ms7 => k_is); (case ms8 => walk_at "MineRoom"); (case ms9 => first | exact BindsTo.of_eq rfl | exact binds_K (by k_in) rfl (by k_is) rfl rfl rfl); (case msc5 => decide); (case msB => exact locs rfl); (case msc2 => exact rfl); (case msc3 => exact rfl); (case msc4 => exact rfl); k_whole; intro _ _ _ _ _ _ _ _ _; (try dsimp only); (try k_fold))
    rename_i g40 L40 h40 FG40 F40 N40 B40 X40 T40
    have D40 : KtsDicts [s₁.heap.objs.size] g40 := by
      intro b hb
      rw [List.mem_singleton.mp hb]
      obtain ⟨ol, es, ep, q1, q2, q3⟩ := FG40.ns
      exact ⟨ol, es, ep, q1, q2⟩
    k_with_none
    k_with "MineMem" => (first | (with_reducible assumption) | (with_reducible exact List.mem_cons_self) | ((with_reducible refine List.mem_append.mpr (Or.inl ?_)); walk_at "MineMem") | ((with_reducible refine List.mem_append.mpr (Or.inr ?_)); walk_at "MineMem") | ((with_reducible refine List.mem_cons_of_mem _ ?_); walk_at "MineMem"))
    k_with "eval ListComp" => ((k_here; k_dflt (refine LCg.ListComp_U (F₀ := by k_asm) (by with_unfolding_all rfl) (by decide) (by rfl) (by decide) (by rfl) ?_)))
    k_with "MineItem" => (first | exact DatIn.none | exact DatIn.bool _ | exact DatIn.int _ _ | exact DatIn.str _ _ | assumption | (refine DatIn.mono ?_ (by assumption); (intro p hp; (try simp only [List.mem_append, List.mem_cons] at hp ⊢); grind)))
    k_with "MineLt" => (first | assumption | exact allLt_of (by assumption) | tbn_find | (simp only [AllLt, and_true]; tbn_conj))
    k_with "MineTup" => ((refine DatIn.tuple (List.mem_append.mpr (Or.inr (List.Mem.head _))) ?_; repeat' (first | exact DatAll.nil | refine DatAll.cons ?_ ?_ | walk_at "MineItem")))
    k_with "TurnEnd" => ((refine TurnEnd.intro [(_, _)] (by assumption) (tl1 (by assumption)) (off1 (by walk_at "MineLt")) (by walk_at "MineTup")))
    k_with "MineSub" => (first | exact fun _ h => h | assumption | (intro p hp; first | (exact List.Mem.tail _ (by assumption)) | (simp only [List.mem_append, List.mem_cons, List.not_mem_nil, or_false] at hp ⊢; grind)))
    k_with "subscriptTail" => ((k_here; (with_reducible show wpAny _ _ (subscriptTail _ _ (Value.ref _) (Value.int _ _)) _ _ _); k_dflt (refine' item_tupleT ?mwt ?mwa ?mwb ?mwc ?mwd ?_; (case mwt => exact News.isTup (by k_asm) (by walk_at "MineMem")); (case mwa => decide); (case mwb => decide); (case mwc => rfl); (case mwd => rfl); k_whole)))
    k_with "MineRoom" => (first | assumption | ktr_room | (dsimp only [ktrTop, Around.deeper, Around.in1] at *; simp only [recursionLimit] at *; omega))
    k_with "MineUnits" => (first | ktr_units | (have hcL9 := cLine_is; dsimp only [ktrTop, Around.deeper, Around.in1] at *; omega))
    k_with "And" => (((with_reducible show WrapAt _ _ ∧ _); k_dflt (refine ⟨WrapAt.of (by k_asm) (by walk_at "MineMemD"), ?_⟩); (try dsimp only [List.nil_append, List.cons_append])))
    k_with "eval Name" => ((k_here; (with_reducible show wpAny _ _ (eval (Expr.Name _ _) (compEnvC _ _ _ _)) _ _ _); k_dflt (first | refine LCgL.ld_own (by k_asm) (by walk_at "MineMem") (by assumption) (by assumption) ?_ | refine LCgL.ld_global (by k_asm) (by k_asm) (by k_asm) (by k_is) ?_ | refine LCgL.ld_built (by k_asm) (by k_asm) (by k_asm) (by k_is) (by boot_by_name) (by decide) ?_)))
    k_with "MineMemD" => ((repeat' (first | assumption | exact List.mem_cons_self | (refine List.mem_cons_of_mem _ ?_) | (refine List.mem_append.mpr (Or.inl ?_)) | fail "MineMemD")))
    k_with "call builtin:str.format" => (k_dflt (refine call_fmt (hfm _ _) hyl ?_); intro t9 k9)
    k_with "compareOp Eq str str" => (k_dflt (refine eq_str ?_); simp only [hx1, hx2, hx3])
    k_steps
  | cons f todo ih =>
    cases hvals with
    | cons hv hvals =>
    intro I oI h10 tk10 hI' F10 N10 offI
    unfold rowD at hv
    cases hv with
    | tuple hmT hDT =>
    cases hDT with
    | cons hA hDT =>
    cases hDT with
    | cons hBt hDT =>
    cases hDT
    rename_i vsF T nT vA vB
    cases hA with
    | list hmA hDA =>
    rename_i ta tv tn
    cases hBt with
    | list hmB hDB =>
    rename_i aa av an
    have htl : tv.toArray.size = c1.length := by have q := hDA.length; rw [List.length_map] at q; rw [List.size_toArray]; exact q
    simp only [List.nil_append] at N10 offI offE
    have offc1 : s₁.heap.objs.size + 1 ≠ I := offI (_, o1) (.head _)
    have offc2 : s₁.heap.objs.size + 1 + 1 ≠ I := offI (_, o2) (.tail _ (.head _))
    have offc3 : s₁.heap.objs.size + 1 + 1 + 1 ≠ I := offI (_, o3) (.tail _ (.tail _ (.head _)))
    refine unpackN_ (items := #[.ref ta, .ref aa]) F10 N10 (N10.isTup (.tail _ (.tail _ (.tail _ (.tail _ (List.mem_append.mpr (.inl hmT))))))) rfl rfl rfl ?_
    intro h11 F11 N11
    refine assignInOrder_cons ?_
    refine wpAny_assign_Name ?_
    refine store_cellN ((I, oI) :: (s₁.heap.objs.size + 1 + 1, o2) :: (s₁.heap.objs.size + 1 + 1 + 1, o3) :: (B ++ E)) F11 N11 (by rfl) (.tail _ (.head _)) d1 ?_ ?_ ?_ (by rfl) (by rfl)
    · intro p hp
      simp only [List.mem_cons, List.mem_append] at hp ⊢
      grind
    · intro p hp
      rcases List.mem_cons.mp hp with rfl | hp
      · exact offc1.symm
      rcases List.mem_cons.mp hp with rfl | hp
      · exact Nat.succ_ne_self _
      rcases List.mem_cons.mp hp with rfl | hp
      · exact Nat.ne_of_gt (Nat.lt_succ_of_lt (Nat.lt_succ_self _))
      · exact (offE p hp).1
    intro h12 o1' F12 N12 d1'
    refine assignInOrder_cons ?_
    refine wpAny_assign_Name ?_
    refine store_cellN ((s₁.heap.objs.size + 1, o1') :: (I, oI) :: (s₁.heap.objs.size + 1 + 1 + 1, o3) :: (B ++ E)) F12 N12 (by rfl) (.tail _ (.tail _ (.head _))) d2 ?_ ?_ ?_ (by rfl) (by rfl)
    · intro p hp
      simp only [List.mem_cons, List.mem_append] at hp ⊢
      grind
    · intro p hp
      rcases List.mem_cons.mp hp with rfl | hp
      · exact Nat.ne_of_lt (Nat.lt_succ_self _)
      rcases List.mem_cons.mp hp with rfl | hp
      · exact offc2.symm
      rcases List.mem_cons.mp hp with rfl | hp
      · exact Nat.succ_ne_self _
      · exact (offE p hp).2.1
    intro h13 o2' F13 N13 d2'
    refine assignInOrder_nil ?_
    clear F10 N10 F11 N11 F12 N12
    k_with_none
    k_with "MineMem" => (first | (with_reducible assumption) | (with_reducible exact List.mem_cons_self) | ((with_reducible refine List.mem_append.mpr (Or.inl ?_)); walk_at "MineMem") | ((with_reducible refine List.mem_append.mpr (Or.inr ?_)); walk_at "MineMem") | ((with_reducible refine List.mem_cons_of_mem _ ?_); walk_at "MineMem"))
    k_with "eval ListComp" => ((k_here; k_dflt (refine LCg.ListComp_U (F₀ := by k_asm) (by with_unfolding_all rfl) (by decide) (by rfl) (by decide) (by rfl) ?_)))
    k_with "MineItem" => (first | exact DatIn.none | exact DatIn.bool _ | exact DatIn.int _ _ | exact DatIn.str _ _ | assumption | (refine DatIn.mono ?_ (by assumption); (intro p hp; (try simp only [List.mem_append, List.mem_cons] at hp ⊢); grind)))
    k_with "MineLt" => (first | assumption | exact allLt_of (by assumption) | tbn_find | (simp only [AllLt, and_true]; tbn_conj))
    k_with "MineTup" => ((refine DatIn.tuple (List.mem_append.mpr (Or.inr (List.Mem.head _))) ?_; repeat' (first | exact DatAll.nil | refine DatAll.cons ?_ ?_ | walk_at "MineItem")))
    k_with "TurnEnd" => ((refine TurnEnd.intro [(_, _)] (by assumption) (tl1 (by assumption)) (off1 (by walk_at "MineLt")) (by walk_at "MineTup")))
    k_with "MineSub" => (first | exact fun _ h => h | assumption | (intro p hp; first | (exact List.Mem.tail _ (by assumption)) | (simp only [List.mem_append, List.mem_cons, List.not_mem_nil, or_false] at hp ⊢; grind)))
    k_with "subscriptTail" => ((k_here; (with_reducible show wpAny _ _ (subscriptTail _ _ (Value.ref _) (Value.int _ _)) _ _ _); k_dflt (refine' item_tupleT ?mwt ?mwa ?mwb ?mwc ?mwd ?_; (case mwt => exact News.isTup (by k_asm) (by walk_at "MineMem")); (case mwa => decide); (case mwb => decide); (case mwc => rfl); (case mwd => rfl); k_whole)))
    k_with "MineRoom" => (first | assumption | ktr_room | (dsimp only [ktrTop, Around.deeper, Around.in1] at *; simp only [recursionLimit] at *; omega))
    k_with "MineUnits" => (first | ktr_units | (have hcL9 := cLine_is; dsimp only [ktrTop, Around.deeper, Around.in1] at *; omega))
    k_with "And" => (((with_reducible show WrapAt _ _ ∧ _); k_dflt (refine ⟨WrapAt.of (by k_asm) (by walk_at "MineMemD"), ?_⟩); (try dsimp only [List.nil_append, List.cons_append])))
    k_with "eval Name" => ((k_here; (with_reducible show wpAny _ _ (eval (Expr.Name _ _) (compEnvC _ _ _ _)) _ _ _); k_dflt (first | refine LCgL.ld_own (by k_asm) (by walk_at "MineMem") (by assumption) (by assumption) ?_ | refine LCgL.ld_global (by k_asm) (by k_asm) (by k_asm) (by k_is) ?_ | refine LCgL.ld_built (by k_asm) (by k_asm) (by k_asm) (by k_is) (by boot_by_name) (by decide) ?_)))
    k_with "MineMemD" => ((repeat' (first | assumption | exact List.mem_cons_self | (refine List.mem_cons_of_mem _ ?_) | (refine List.mem_append.mpr (Or.inl ?_)) | fail "MineMemD")))
    k_with "exec For Tuple Name cons nil" => (refine Hid.out ?_)
    k_steps
    unfold Hid
    refine seq_for F13 rfl ?_
    refine nameX_L F13 g1 ?_ rfl rfl
    refine ⟨false, a2, _, _, _, _, (s₁.heap.objs.size + 1, o1') :: (s₁.heap.objs.size + 1 + 1, o2') :: (s₁.heap.objs.size + 1 + 1 + 1, o3) :: ([(I, oI)] ++ (B ++ E)), rfl, rfl, rfl, F13, newsIn N13 ?_, .tail _ (.tail _ (.tail _ (List.mem_append.mpr (.inr (List.mem_append.mpr (.inl hm2)))))), ?_⟩
    · intro p hp
      simp only [List.mem_cons, List.mem_append, List.not_mem_nil, or_false] at hp ⊢
      grind
    refine seq_gen (Inv := InnInv s₁.heap.objs.size B (.ref a2) (.ref SC1) (.ref scr) c2 [(I, oI)] (.ref ta) (.ref aa)) ?_ ?_
    · refine ⟨forms, hD2, o1', o2', o3, _, _, _, E, rfl, d1', d2', d3, rfl, rfl, ?_, ?_, g1, g2, g3⟩
      · intro p hp
        rcases List.mem_cons.mp hp with rfl | hp
        · exact ⟨offc1.symm, offc2.symm, offc3.symm⟩
        · exact offE p hp
      · intro q hq p hp
        rw [List.mem_singleton.mp hq]
        exact offI p (.tail _ (.tail _ (.tail _ hp)))
    clear F13 N13 d1' d2' d1 d2 d3 offE g1 g2 g3
    rintro valsI j mI led ⟨todoI, hvalsI, p1, p2, p3, w1, w2, w3, EI, rfl, k1, k2, k3, rfl, rfl, offEI, offXI, g1, g2, g3⟩
    induction todoI generalizing valsI p1 p2 p3 w3 EI j mI with
    | nil =>
      cases hvalsI
      intro h14 tk14 F14 N14
      refine wpAny_execs_nil ?_
      refine SeqEnd.intro ((s₁.heap.objs.size + 1, p1) :: (s₁.heap.objs.size + 1 + 1, p2) :: (s₁.heap.objs.size + 1 + 1 + 1, p3) :: ([] ++ (B ++ EI))) F14 (newsIn N14 ?_) hI' ?_ ⟨?_, ?_⟩
      · intro p hp
        simp only [List.mem_cons, List.mem_append, List.not_mem_nil, or_false, false_or] at hp ⊢
        grind
      · intro p hp
        rcases List.mem_cons.mp hp with rfl | hp
        · exact offc1
        rcases List.mem_cons.mp hp with rfl | hp
        · exact offc2
        rcases List.mem_cons.mp hp with rfl | hp
        · exact offc3
        · exact offXI _ (.head _) p hp
      · exact .tail _ (.tail _ (.tail _ (List.mem_append.mpr (.inr (List.mem_append.mpr (.inl hm1))))))
      · exact ih vsF (i + 1) mI hvals p1 p2 p3 _ _ _ EI k1 k2 k3 (fun p hp => offEI p (.tail _ hp)) g1 g2 g3
    | cons g todoI ihI =>
      cases hvalsI with
      | cons hvI hvalsI =>
      clear ih
      intro I2 oI2 h14 tk14 hI2 F14 N14 offI2
      unfold rowD at hvI
      cases hvI with
      | tuple hmT2 hDT2 =>
      cases hDT2 with
      | cons hA2 hDT2 =>
      cases hDT2 with
      | cons hB2 hDT2 =>
      cases hDT2
      rename_i vsF2 T2 nT2 vA2 vB2
      cases hA2 with
      | list hmA2 hDA2 =>
      rename_i wa wv wn
      cases hB2 with
      | list hmB2 hDB2 =>
      rename_i oa ov on
      have offj1 : s₁.heap.objs.size + 1 ≠ I2 := offI2 (_, p1) (.head _)
      have offj2 : s₁.heap.objs.size + 1 + 1 ≠ I2 := offI2 (_, p2) (.tail _ (.head _))
      have offj3 : s₁.heap.objs.size + 1 + 1 + 1 ≠ I2 := offI2 (_, p3) (.tail _ (.tail _ (.head _)))
      refine unpackN_ (items := #[.ref wa, .ref oa]) F14 N14 (N14.isTup (.tail _ (.tail _ (.tail _ (.tail _ (List.mem_append.mpr (.inr (List.mem_append.mpr (.inl hmT2)))))))) ) rfl rfl rfl ?_
      intro h15 F15 N15
      clear F14 N14
      refine assignInOrder_cons ?_
      k_with_none
      k_with "MineMem" => (first | (with_reducible assumption) | (with_reducible exact List.mem_cons_self) | ((with_reducible refine List.mem_append.mpr (Or.inl ?_)); walk_at "MineMem") | ((with_reducible refine List.mem_append.mpr (Or.inr ?_)); walk_at "MineMem") | ((with_reducible refine List.mem_cons_of_mem _ ?_); walk_at "MineMem"))
      k_with "eval ListComp" => ((k_here; k_dflt (refine LCg.ListComp_U (F₀ := by k_asm) (by with_unfolding_all rfl) (by decide) (by rfl) (by decide) (by rfl) ?_)))
      k_with "MineItem" => (first | exact DatIn.none | exact DatIn.bool _ | exact DatIn.int _ _ | exact DatIn.str _ _ | assumption | (refine DatIn.mono ?_ (by assumption); (intro p hp; (try simp only [List.mem_append, List.mem_cons] at hp ⊢); grind)))
      k_with "MineLt" => (first | assumption | exact allLt_of (by assumption) | tbn_find | (simp only [AllLt, and_true]; tbn_conj))
      k_with "MineTup" => ((refine DatIn.tuple (List.mem_append.mpr (Or.inr (List.Mem.head _))) ?_; repeat' (first | exact DatAll.nil | refine DatAll.cons ?_ ?_ | walk_at "MineItem")))
      k_with "TurnEnd" => ((refine TurnEnd.intro [(_, _)] (by assumption) (tl1 (by assumption)) (off1 (by walk_at "MineLt")) (by walk_at "MineTup")))
      k_with "MineSub" => (first | exact fun _ h => h | assumption | (intro p hp; first | (exact List.Mem.tail _ (by assumption)) | (simp only [List.mem_append, List.mem_cons, List.not_mem_nil, or_false] at hp ⊢; grind)))
      k_with "subscriptTail" => ((k_here; (with_reducible show wpAny _ _ (subscriptTail _ _ (Value.ref _) (Value.int _ _)) _ _ _); k_dflt (refine' item_tupleT ?mwt ?mwa ?mwb ?mwc ?mwd ?_; (case mwt => exact News.isTup (by k_asm) (by walk_at "MineMem")); (case mwa => decide); (case mwb => decide); (case mwc => rfl); (case mwd => rfl); k_whole)))
      k_with "MineRoom" => (first | assumption | ktr_room | (dsimp only [ktrTop, Around.deeper, Around.in1] at *; simp only [recursionLimit] at *; omega))
      k_with "MineUnits" => (first | ktr_units | (have hcL9 := cLine_is; dsimp only [ktrTop, Around.deeper, Around.in1] at *; omega))
      k_with "And" => (((with_reducible show WrapAt _ _ ∧ _); k_dflt (refine ⟨WrapAt.of (by k_asm) (by walk_at "MineMemD"), ?_⟩); (try dsimp only [List.nil_append, List.cons_append])))
      k_with "eval Name" => ((k_here; (with_reducible show wpAny _ _ (eval (Expr.Name _ _) (compEnvC _ _ _ _)) _ _ _); k_dflt (first | refine LCgL.ld_own (by k_asm) (by walk_at "MineMem") (by assumption) (by assumption) ?_ | refine LCgL.ld_global (by k_asm) (by k_asm) (by k_asm) (by k_is) ?_ | refine LCgL.ld_built (by k_asm) (by k_asm) (by k_asm) (by k_is) (by boot_by_name) (by decide) ?_)))
      k_with "MineMemD" => ((repeat' (first | assumption | exact List.mem_cons_self | (refine List.mem_cons_of_mem _ ?_) | (refine List.mem_append.mpr (Or.inl ?_)) | fail "MineMemD")))
      k_with "storeName" => ((with_reducible show wpAny _ _ (storeName _ (Str.ofString "without") _) _ _ _); refine Hid.out ?_)
      k_steps
      rename Fr _ _ _ _ => F16
      rename News _ _ _ _ => N16
      unfold Hid
      refine store_cellN ((I2, oI2) :: (s₁.heap.objs.size + 1, p1) :: (s₁.heap.objs.size + 1 + 1, p2) :: ([(I, oI)] ++ (B ++ EI))) F16 N16 (by rfl) (.tail _ (.tail _ (.tail _ (.head _)))) k3 ?_ ?_ ?_ (by rfl) (by rfl)
      · intro p hp
        simp only [List.mem_cons, List.mem_append] at hp ⊢
        grind
      · intro p hp
        rcases List.mem_cons.mp hp with rfl | hp
        · exact offj3.symm
        rcases List.mem_cons.mp hp with rfl | hp
        · exact Nat.ne_of_lt (Nat.lt_succ_of_lt (Nat.lt_succ_self _))
        rcases List.mem_cons.mp hp with rfl | hp
        · exact Nat.ne_of_lt (Nat.lt_succ_self _)
        · exact (offEI p hp).2.2
      intro h17 p3' F17 N17 k3'
      refine assignInOrder_nil ?_
      clear F16 N16
      obtain ⟨E9, hE9⟩ : ∃ e, e = (I2, oI2) :: ([(I, oI)] ++ (B ++ EI)) := ⟨_, rfl⟩
      have N18 : News s₁.heap s₁.heap.objs.size h17 ((s₁.heap.objs.size + 1, p1) :: (s₁.heap.objs.size + 1 + 1, p2) :: (s₁.heap.objs.size + 1 + 1 + 1, p3') :: E9) := newsIn N17 (by
        subst hE9
        intro p hp
        simp only [List.mem_cons, List.mem_append] at hp ⊢
        grind)
      have hBE : ∀ p ∈ B, p ∈ E9 := by
        rw [hE9]
        intro p hp
        exact .tail _ (List.mem_append.mpr (.inr (List.mem_append.mpr (.inl hp))))
      clear N17
      have hnA := hBE _ hmA
      have hnB := hBE _ hmB
      have hnA2 := hBE _ hmA2
      have hnB2 := hBE _ hmB2
      k_with_none
      k_with "MineMem" => (first | (with_reducible assumption) | (with_reducible exact List.mem_cons_self) | ((with_reducible refine List.mem_append.mpr (Or.inl ?_)); walk_at "MineMem") | ((with_reducible refine List.mem_append.mpr (Or.inr ?_)); walk_at "MineMem") | ((with_reducible refine List.mem_cons_of_mem _ ?_); walk_at "MineMem"))
      k_with "eval ListComp" => ((k_here; k_dflt (refine LCg.ListComp_U (F₀ := by k_asm) (by with_unfolding_all rfl) (by decide) (by rfl) (by decide) (by rfl) ?_)))
      k_with "MineItem" => (first | exact DatIn.none | exact DatIn.bool _ | exact DatIn.int _ _ | exact DatIn.str _ _ | assumption | (refine DatIn.mono ?_ (by assumption); (intro p hp; (try simp only [List.mem_append, List.mem_cons] at hp ⊢); grind)))
      k_with "MineLt" => (first | assumption | exact allLt_of (by assumption) | tbn_find | (simp only [AllLt, and_true]; tbn_conj))
      k_with "MineTup" => ((refine DatIn.tuple (List.mem_append.mpr (Or.inr (List.Mem.head _))) ?_; repeat' (first | exact DatAll.nil | refine DatAll.cons ?_ ?_ | walk_at "MineItem")))
      k_with "TurnEnd" => ((refine TurnEnd.intro [(_, _)] (by assumption) (tl1 (by assumption)) (off1 (by walk_at "MineLt")) (by walk_at "MineTup")))
      k_with "MineSub" => (first | exact fun _ h => h | assumption | (intro p hp; first | (exact List.Mem.tail _ (by assumption)) | (simp only [List.mem_append, List.mem_cons, List.not_mem_nil, or_false] at hp ⊢; grind)))
      k_with "subscriptTail" => ((k_here; (with_reducible show wpAny _ _ (subscriptTail _ _ (Value.ref _) (Value.int _ _)) _ _ _); k_dflt (refine' item_tupleT ?mwt ?mwa ?mwb ?mwc ?mwd ?_; (case mwt => exact News.isTup (by k_asm) (by walk_at "MineMem")); (case mwa => decide); (case mwb => decide); (case mwc => rfl); (case mwd => rfl); k_whole)))
      k_with "MineRoom" => (first | assumption | ktr_room | (dsimp only [ktrTop, Around.deeper, Around.in1] at *; simp only [recursionLimit] at *; omega))
      k_with "MineUnits" => (first | ktr_units | (have hcL9 := cLine_is; dsimp only [ktrTop, Around.deeper, Around.in1] at *; omega))
      k_with "And" => (((with_reducible show WrapAt _ _ ∧ _); k_dflt (refine ⟨WrapAt.of (by k_asm) (by walk_at "MineMemD"), ?_⟩); (try dsimp only [List.nil_append, List.cons_append])))
      k_with "eval Name" => ((k_here; (with_reducible show wpAny _ _ (eval (Expr.Name _ _) (compEnvC _ _ _ _)) _ _ _); k_dflt (first | refine LCgL.ld_own (by k_asm) (by walk_at "MineMem") (by assumption) (by assumption) ?_ | refine LCgL.ld_global (by k_asm) (by k_asm) (by k_asm) (by k_is) ?_ | refine LCgL.ld_built (by k_asm) (by k_asm) (by k_asm) (by k_is) (by boot_by_name) (by decide) ?_)))
      k_with "MineMemD" => ((repeat' (first | assumption | exact List.mem_cons_self | (refine List.mem_cons_of_mem _ ?_) | (refine List.mem_append.mpr (Or.inl ?_)) | fail "MineMemD")))
      k_with "exec Assign cons ListComp" => (refine Hid.out ?_)
      k_steps
      unfold Hid
      refine LCt.Assign_ListComp_T (F₀ := F17) (by rfl) (by with_unfolding_all rfl) (by with_unfolding_all rfl) (by decide) (by rfl) (by decide) (by rfl) (by rfl) (by rfl) ?_
      k_with_none
      k_with "MineMem" => (first | (with_reducible assumption) | (with_reducible exact List.mem_cons_self) | ((with_reducible refine List.mem_append.mpr (Or.inl ?_)); walk_at "MineMem") | ((with_reducible refine List.mem_append.mpr (Or.inr ?_)); walk_at "MineMem") | ((with_reducible refine List.mem_cons_of_mem _ ?_); walk_at "MineMem"))
      k_with "eval ListComp" => ((k_here; k_dflt (refine LCg.ListComp_U (F₀ := by k_asm) (by with_unfolding_all rfl) (by decide) (by rfl) (by decide) (by rfl) ?_)))
      k_with "MineItem" => (first | exact DatIn.none | exact DatIn.bool _ | exact DatIn.int _ _ | exact DatIn.str _ _ | assumption | (refine DatIn.mono ?_ (by assumption); (intro p hp; (try simp only [List.mem_append, List.mem_cons] at hp ⊢); grind)))
      k_with "MineLt" => (first | assumption | exact allLt_of (by assumption) | tbn_find | (simp only [AllLt, and_true]; tbn_conj))
      k_with "MineTup" => ((refine DatIn.tuple (List.mem_append.mpr (Or.inr (List.Mem.head _))) ?_; repeat' (first | exact DatAll.nil | refine DatAll.cons ?_ ?_ | walk_at "MineItem")))
      k_with "TurnEnd" => ((refine TurnEnd.intro [(_, _)] (by assumption) (tl1 (by assumption)) (off1 (by walk_at "MineLt")) (by walk_at "MineTup")))
      k_with "MineSub" => (first | exact fun _ h => h | assumption | (intro p hp; first | (exact List.Mem.tail _ (by assumption)) | (simp only [List.mem_append, List.mem_cons, List.not_mem_nil, or_false] at hp ⊢; grind)))
      k_with "subscriptTail" => ((k_here; (with_reducible show wpAny _ _ (subscriptTail _ _ (Value.ref _) (Value.int _ _)) _ _ _); k_dflt (refine' item_tupleT ?mwt ?mwa ?mwb ?mwc ?mwd ?_; (case mwt => exact News.isTup (by k_asm) (by walk_at "MineMem")); (case mwa => decide); (case mwb => decide); (case mwc => rfl); (case mwd => rfl); k_whole)))
      k_with "MineRoom" => (first | assumption | ktr_room | (dsimp only [ktrTop, Around.deeper, Around.in1] at *; simp only [recursionLimit] at *; omega))
      k_with "MineUnits" => (first | ktr_units | (have hcL9 := cLine_is; dsimp only [ktrTop, Around.deeper, Around.in1] at *; omega))
      k_with "And" => (((with_reducible show WrapAt _ _ ∧ _); k_dflt (refine ⟨WrapAt.of (by k_asm) (by walk_at "MineMemD"), ?_⟩); (try dsimp only [List.nil_append, List.cons_append])))
      k_with "eval Name" => ((k_here; (with_reducible show wpAny _ _ (eval (Expr.Name _ _) (compEnvC _ _ _ _)) _ _ _); k_dflt (first | refine LCgL.ld_own (by k_asm) (by walk_at "MineMem") (by assumption) (by assumption) ?_ | refine LCgL.ld_global (by k_asm) (by k_asm) (by k_asm) (by k_is) ?_ | refine LCgL.ld_built (by k_asm) (by k_asm) (by k_asm) (by k_is) (by boot_by_name) (by decide) ?_)))
      k_with "MineMemD" => ((repeat' (first | assumption | exact List.mem_cons_self | (refine List.mem_cons_of_mem _ ?_) | (refine List.mem_append.mpr (Or.inl ?_)) | fail "MineMemD")))
      k_with "eval Name" => ((with_reducible show wpAny _ _ (eval (Expr.Name _ _) (envOfC _ _ _ _ _)) _ _ _); k_dflt (refine nameX_C (by k_asm) (by rfl) (by walk_at "MineMem") k1 ?_ (by rfl) (by rfl)))
      k_with "call builtin:len" => (k_dflt (refine len_list (isL (by k_asm) (by walk_at "MineMem" : (ta, W.listOf tv.toArray tn) ∈ _)) (by rw [htl]; omega) ?_))
      k_with "call type:range" => (refine Hid.out ?_)
      k_with "CompSrcT" => (refine Hid.out ?_)
      k_steps
      unfold Hid
      rw [htl]
      refine range1_rows (by k_asm) (by k_asm) ?_
      intro h20 tk20 t1 u1 v1 hr20 F20 N20 up20
      clear F17 N18
      refine LCt.CompSrcT.range (n := c1.length) (by rfl) F20 N20 hr20 (small_one (by decide) (by decide) (by omega) (by omega)) (by rw [rangeSize_nat]; omega) (by rw [sizeLine_eq]; omega) ?_
      intro g20
      refine comp_restT (sub := []) (n := c1.length) (tst := keptI c1 c2 f g) (dec := fun k => thingS (afterS (c1.getD k (0, 0, 0)) f)) (fun _ h => nomatch h) ?test ?turn5 ?fin5
      case' test =>
        clear F20 N20 up20
        intro k t I' oI' C oC D m₂ ys tl h tk E' hk hC hx F' N'
        have hkl : k < av.length := by have q := hDB.length; rw [List.length_map] at q; omega
        obtain ⟨c, hc, hDv⟩ := datAll_get hDB (List.getElem?_eq_getElem hkl)
        have hcg : c1.getD k (0, 0, 0) = c := by rw [List.getD, hc]; rfl
        k_with_none
        k_with "MineMem" => (first | (with_reducible assumption) | (with_reducible exact List.mem_cons_self) | ((with_reducible refine List.mem_append.mpr (Or.inl ?_)); walk_at "MineMem") | ((with_reducible refine List.mem_append.mpr (Or.inr ?_)); walk_at "MineMem") | ((with_reducible refine List.mem_cons_of_mem _ ?_); walk_at "MineMem"))
        k_with "eval ListComp" => ((k_here; k_dflt (refine LCg.ListComp_U (F₀ := by k_asm) (by with_unfolding_all rfl) (by decide) (by rfl) (by decide) (by rfl) ?_)))
        k_with "MineItem" => (first | exact DatIn.none | exact DatIn.bool _ | exact DatIn.int _ _ | exact DatIn.str _ _ | assumption | (refine DatIn.mono ?_ (by assumption); (intro p hp; (try simp only [List.mem_append, List.mem_cons] at hp ⊢); grind)))
        k_with "MineLt" => (first | assumption | exact allLt_of (by assumption) | tbn_find | (simp only [AllLt, and_true]; tbn_conj))
        k_with "MineTup" => ((refine DatIn.tuple (List.mem_append.mpr (Or.inr (List.Mem.head _))) ?_; repeat' (first | exact DatAll.nil | refine DatAll.cons ?_ ?_ | walk_at "MineItem")))
        k_with "TurnEnd" => ((refine TurnEnd.intro [(_, _)] (by assumption) (tl1 (by assumption)) (off1 (by walk_at "MineLt")) (by walk_at "MineTup")))
        k_with "MineSub" => (first | exact fun _ h => h | assumption | (intro p hp; first | (exact List.Mem.tail _ (by assumption)) | (simp only [List.mem_append, List.mem_cons, List.not_mem_nil, or_false] at hp ⊢; grind)))
        k_with "subscriptTail" => ((k_here; (with_reducible show wpAny _ _ (subscriptTail _ _ (Value.ref _) (Value.int _ _)) _ _ _); k_dflt (refine' item_tupleT ?mwt ?mwa ?mwb ?mwc ?mwd ?_; (case mwt => exact News.isTup (by k_asm) (by walk_at "MineMem")); (case mwa => decide); (case mwb => decide); (case mwc => rfl); (case mwd => rfl); k_whole)))
        k_with "MineRoom" => (first | assumption | ktr_room | (dsimp only [ktrTop, Around.deeper, Around.in1] at *; simp only [recursionLimit] at *; omega))
        k_with "MineUnits" => (first | ktr_units | (have hcL9 := cLine_is; dsimp only [ktrTop, Around.deeper, Around.in1] at *; omega))
        k_with "And" => (((with_reducible show WrapAt _ _ ∧ _); k_dflt (refine ⟨WrapAt.of (by k_asm) (by walk_at "MineMemD"), ?_⟩); (try dsimp only [List.nil_append, List.cons_append])))
        k_with "eval Name" => ((k_here; (with_reducible show wpAny _ _ (eval (Expr.Name _ _) (compEnvC _ _ _ _)) _ _ _); k_dflt (first | refine LCgL.ld_own (by k_asm) (by walk_at "MineMem") (by assumption) (by assumption) ?_ | refine LCgL.ld_global (by k_asm) (by k_asm) (by k_asm) (by k_is) ?_ | refine LCgL.ld_built (by k_asm) (by k_asm) (by k_asm) (by k_is) (by boot_by_name) (by decide) ?_)))
        k_with "MineMemD" => ((repeat' (first | assumption | exact List.mem_cons_self | (refine List.mem_cons_of_mem _ ?_) | (refine List.mem_append.mpr (Or.inl ?_)) | fail "MineMemD")))
        k_with "eval Name" => ((with_reducible show wpAny _ _ (eval (Expr.Name _ _) (compEnvC _ _ _ _)) _ _ _); k_dflt (refine lcf_cell (by k_asm) (by rfl) (by walk_at "MineMem") k2 ?_ (by rfl) (by rfl)))
        k_with "eval Name" => ((with_reducible show wpAny _ _ (eval (Expr.Name _ _) (compEnvC _ _ _ _)) _ _ _); k_dflt (refine lcf_cell (by k_asm) (by rfl) (by walk_at "MineMem") k3' ?_ (by rfl) (by rfl)))
        k_with "subscriptTail Name Name ref int" => (refine Hid.out ?_)
        k_with "compareOp NotIn" => (refine Hid.out ?_)
        k_steps
        unfold Hid
        refine item_list (x := av[k]) (isL (by k_asm) (by walk_at "MineMem" : (aa, W.listOf av.toArray an) ∈ _)) (by omega) (by omega) (by rw [Int.toNat_natCast]; simp [hkl]) ?_
        k_steps
        unfold Hid
        refine' d_notIn (by k_asm) hDv ?sa5 (DatIn.list hnB2 (DatAll.mono hBE hDB2)) ?sb5 rfl ?oo5 ?hu5 ?_
        case sa5 => intro p hp; have := hBE p hp; simp only [List.mem_append, List.mem_cons]; simp only [this, true_or, or_true]
        case sb5 => intro p hp; simp only [List.mem_append, List.mem_cons]; simp only [hp, true_or, or_true]
        case oo5 => intro d hd; obtain ⟨c', _, rfl⟩ := List.mem_map.mp hd; rfl
        case hu5 => first | units_room | walk_at "MineUnits"
        k_steps
        · unfold keptI numsS
          rw [hcg]
        · exact F'
        · exact N'
      case' turn5 =>
        clear F20 N20 up20
        intro k t I' oI' C oC D m₂ ys tl h tk E' hk _ hC hx F' N'
        have hkl : k < tv.length := by have q := hDA.length; rw [List.length_map] at q; omega
        obtain ⟨c, hc, hDv⟩ := datAll_get hDA (List.getElem?_eq_getElem hkl)
        have hcg : c1.getD k (0, 0, 0) = c := by rw [List.getD, hc]; rfl
        k_with_none
        k_with "MineMem" => (first | (with_reducible assumption) | (with_reducible exact List.mem_cons_self) | ((with_reducible refine List.mem_append.mpr (Or.inl ?_)); walk_at "MineMem") | ((with_reducible refine List.mem_append.mpr (Or.inr ?_)); walk_at "MineMem") | ((with_reducible refine List.mem_cons_of_mem _ ?_); walk_at "MineMem"))
        k_with "eval ListComp" => ((k_here; k_dflt (refine LCg.ListComp_U (F₀ := by k_asm) (by with_unfolding_all rfl) (by decide) (by rfl) (by decide) (by rfl) ?_)))
        k_with "MineItem" => (first | exact DatIn.none | exact DatIn.bool _ | exact DatIn.int _ _ | exact DatIn.str _ _ | assumption | (refine DatIn.mono ?_ (by assumption); (intro p hp; (try simp only [List.mem_append, List.mem_cons] at hp ⊢); grind)))
        k_with "MineLt" => (first | assumption | exact allLt_of (by assumption) | tbn_find | (simp only [AllLt, and_true]; tbn_conj))
        k_with "MineTup" => ((refine DatIn.tuple (List.mem_append.mpr (Or.inr (List.Mem.head _))) ?_; repeat' (first | exact DatAll.nil | refine DatAll.cons ?_ ?_ | walk_at "MineItem")))
        k_with "TurnEnd" => ((refine TurnEnd.intro [(_, _)] (by assumption) (tl1 (by assumption)) (off1 (by walk_at "MineLt")) (by walk_at "MineTup")))
        k_with "MineSub" => (first | exact fun _ h => h | assumption | (intro p hp; first | (exact List.Mem.tail _ (by assumption)) | (simp only [List.mem_append, List.mem_cons, List.not_mem_nil, or_false] at hp ⊢; grind)))
        k_with "subscriptTail" => ((k_here; (with_reducible show wpAny _ _ (subscriptTail _ _ (Value.ref _) (Value.int _ _)) _ _ _); k_dflt (refine' item_tupleT ?mwt ?mwa ?mwb ?mwc ?mwd ?_; (case mwt => exact News.isTup (by k_asm) (by walk_at "MineMem")); (case mwa => decide); (case mwb => decide); (case mwc => rfl); (case mwd => rfl); k_whole)))
        k_with "MineRoom" => (first | assumption | ktr_room | (dsimp only [ktrTop, Around.deeper, Around.in1] at *; simp only [recursionLimit] at *; omega))
        k_with "MineUnits" => (first | ktr_units | (have hcL9 := cLine_is; dsimp only [ktrTop, Around.deeper, Around.in1] at *; omega))
        k_with "And" => (((with_reducible show WrapAt _ _ ∧ _); k_dflt (refine ⟨WrapAt.of (by k_asm) (by walk_at "MineMemD"), ?_⟩); (try dsimp only [List.nil_append, List.cons_append])))
        k_with "eval Name" => ((k_here; (with_reducible show wpAny _ _ (eval (Expr.Name _ _) (compEnvC _ _ _ _)) _ _ _); k_dflt (first | refine LCgL.ld_own (by k_asm) (by walk_at "MineMem") (by assumption) (by assumption) ?_ | refine LCgL.ld_global (by k_asm) (by k_asm) (by k_asm) (by k_is) ?_ | refine LCgL.ld_built (by k_asm) (by k_asm) (by k_asm) (by k_is) (by boot_by_name) (by decide) ?_)))
        k_with "MineMemD" => ((repeat' (first | assumption | exact List.mem_cons_self | (refine List.mem_cons_of_mem _ ?_) | (refine List.mem_append.mpr (Or.inl ?_)) | fail "MineMemD")))
        k_with "eval Name" => ((with_reducible show wpAny _ _ (eval (Expr.Name _ _) (compEnvC _ _ _ _)) _ _ _); k_dflt (refine lcf_cell (by k_asm) (by rfl) (by walk_at "MineMem") k1 ?_ (by rfl) (by rfl)))
        k_with "subscriptTail Name Name ref int" => (refine Hid.out ?_)
        k_steps
        unfold Hid
        refine item_list (x := tv[k]) (isL (by k_asm) (by walk_at "MineMem" : (ta, W.listOf tv.toArray tn) ∈ _)) (by omega) (by omega) (by rw [Int.toNat_natCast]; simp [hkl]) ?_
        refine ⟨_, _, [], rfl, F', tl0 N', off0, ?_⟩
        rw [hcg]
        exact datIn_flat hDv (thing_fl (after_mem f (hc1d c (List.mem_of_getElem? hc))))
      case' fin5 =>
      intro ys9 e9 o9 D9
      rw [due_told hc1d hc2d] at D9
      clear F20 N20 up20
      intro S9 h21 tk21 F21 N21 l21
      dsimp only
      k_with_none
      k_with "MineMem" => (first | (with_reducible assumption) | (with_reducible exact List.mem_cons_self) | ((with_reducible refine List.mem_append.mpr (Or.inl ?_)); walk_at "MineMem") | ((with_reducible refine List.mem_append.mpr (Or.inr ?_)); walk_at "MineMem") | ((with_reducible refine List.mem_cons_of_mem _ ?_); walk_at "MineMem"))
      k_with "eval ListComp" => ((k_here; k_dflt (refine LCg.ListComp_U (F₀ := by k_asm) (by with_unfolding_all rfl) (by decide) (by rfl) (by decide) (by rfl) ?_)))
      k_with "MineItem" => (first | exact DatIn.none | exact DatIn.bool _ | exact DatIn.int _ _ | exact DatIn.str _ _ | assumption | (refine DatIn.mono ?_ (by assumption); (intro p hp; (try simp only [List.mem_append, List.mem_cons] at hp ⊢); grind)))
      k_with "MineLt" => (first | assumption | exact allLt_of (by assumption) | tbn_find | (simp only [AllLt, and_true]; tbn_conj))
      k_with "MineTup" => ((refine DatIn.tuple (List.mem_append.mpr (Or.inr (List.Mem.head _))) ?_; repeat' (first | exact DatAll.nil | refine DatAll.cons ?_ ?_ | walk_at "MineItem")))
      k_with "TurnEnd" => ((refine TurnEnd.intro [(_, _)] (by assumption) (tl1 (by assumption)) (off1 (by walk_at "MineLt")) (by walk_at "MineTup")))
      k_with "MineSub" => (first | exact fun _ h => h | assumption | (intro p hp; first | (exact List.Mem.tail _ (by assumption)) | (simp only [List.mem_append, List.mem_cons, List.not_mem_nil, or_false] at hp ⊢; grind)))
      k_with "subscriptTail" => ((k_here; (with_reducible show wpAny _ _ (subscriptTail _ _ (Value.ref _) (Value.int _ _)) _ _ _); k_dflt (refine' item_tupleT ?mwt ?mwa ?mwb ?mwc ?mwd ?_; (case mwt => exact News.isTup (by k_asm) (by walk_at "MineMem")); (case mwa => decide); (case mwb => decide); (case mwc => rfl); (case mwd => rfl); k_whole)))
      k_with "MineRoom" => (first | assumption | ktr_room | (dsimp only [ktrTop, Around.deeper, Around.in1] at *; simp only [recursionLimit] at *; omega))
      k_with "MineUnits" => (first | ktr_units | (have hcL9 := cLine_is; dsimp only [ktrTop, Around.deeper, Around.in1] at *; omega))
      k_with "And" => (((with_reducible show WrapAt _ _ ∧ _); k_dflt (refine ⟨WrapAt.of (by k_asm) (by walk_at "MineMemD"), ?_⟩); (try dsimp only [List.nil_append, List.cons_append])))
      k_with "eval Name" => ((k_here; (with_reducible show wpAny _ _ (eval (Expr.Name _ _) (compEnvC _ _ _ _)) _ _ _); k_dflt (first | refine LCgL.ld_own (by k_asm) (by walk_at "MineMem") (by assumption) (by assumption) ?_ | refine LCgL.ld_global (by k_asm) (by k_asm) (by k_asm) (by k_is) ?_ | refine LCgL.ld_built (by k_asm) (by k_asm) (by k_asm) (by k_is) (by boot_by_name) (by decide) ?_)))
      k_with "MineMemD" => ((repeat' (first | assumption | exact List.mem_cons_self | (refine List.mem_cons_of_mem _ ?_) | (refine List.mem_append.mpr (Or.inl ?_)) | fail "MineMemD")))
      k_with "call ref" => (refine Hid.out ?_)
      k_steps
      unfold Hid
      obtain ⟨L0, hL0⟩ : ∃ l, l = (s₁.heap.objs.size + 1, p1) :: (s₁.heap.objs.size + 1 + 1, p2) :: (s₁.heap.objs.size + 1 + 1 + 1, p3') :: E9 := ⟨_, rfl⟩
      rw [← hL0] at N21 o9 l21
      have hBL : ∀ p ∈ B, p ∈ L0 := fun p hp => by rw [hL0]; exact .tail _ (.tail _ (.tail _ (hBE p hp)))
      have hfk : ∀ d ∈ (toldS c1 f).filter (keptD (toldS c2 g)), flat d = true := fun d hd => flat_things hc1d f d (List.mem_filter.mp hd).1
      have hfo : ∀ d ∈ (toldS c1 f).filter (keptD (toldS c2 g)), okD 8 d = true := fun d hd => okD_things hc1d f d (List.mem_filter.mp hd).1
      have hfl : ((toldS c1 f).filter (keptD (toldS c2 g))).length ≤ 64 := by
        refine Nat.le_trans (List.length_filter_le _ _) ?_
        unfold toldS
        rw [List.length_map]; omega
      refine' tel_use0 (sub := B) (filter_tel (toldS c1 f) (toldS c2 g) (okD_things hc1d f) (okD_things hc2d g) (by unfold toldS; rw [List.length_map]; omega)) (by k_asm) (by k_asm) (by k_asm) (by k_asm) (by k_asm) (by first | exact rfl | assumption) (fun p hp => .tail _ (List.mem_append.mpr (.inl (hBL p hp)))) (DatAll.cons (DatIn.list hmA hDA) (DatAll.cons (DatIn.list hmA2 hDA2) .nil)) (by walk_at "MineRoom") (by walk_at "MineUnits") ?_
      intro r22 e22 h22 tk22 F22 N22 o22 D22
      clear F21 N21
      k_with_none
      k_with "MineMem" => (first | (with_reducible assumption) | (with_reducible exact List.mem_cons_self) | ((with_reducible refine List.mem_append.mpr (Or.inl ?_)); walk_at "MineMem") | ((with_reducible refine List.mem_append.mpr (Or.inr ?_)); walk_at "MineMem") | ((with_reducible refine List.mem_cons_of_mem _ ?_); walk_at "MineMem"))
      k_with "eval ListComp" => ((k_here; k_dflt (refine LCg.ListComp_U (F₀ := by k_asm) (by with_unfolding_all rfl) (by decide) (by rfl) (by decide) (by rfl) ?_)))
      k_with "MineItem" => (first | exact DatIn.none | exact DatIn.bool _ | exact DatIn.int _ _ | exact DatIn.str _ _ | assumption | (refine DatIn.mono ?_ (by assumption); (intro p hp; (try simp only [List.mem_append, List.mem_cons] at hp ⊢); grind)))
      k_with "MineLt" => (first | assumption | exact allLt_of (by assumption) | tbn_find | (simp only [AllLt, and_true]; tbn_conj))
      k_with "MineTup" => ((refine DatIn.tuple (List.mem_append.mpr (Or.inr (List.Mem.head _))) ?_; repeat' (first | exact DatAll.nil | refine DatAll.cons ?_ ?_ | walk_at "MineItem")))
      k_with "TurnEnd" => ((refine TurnEnd.intro [(_, _)] (by assumption) (tl1 (by assumption)) (off1 (by walk_at "MineLt")) (by walk_at "MineTup")))
      k_with "MineSub" => (first | exact fun _ h => h | assumption | (intro p hp; first | (exact List.Mem.tail _ (by assumption)) | (simp only [List.mem_append, List.mem_cons, List.not_mem_nil, or_false] at hp ⊢; grind)))
      k_with "subscriptTail" => ((k_here; (with_reducible show wpAny _ _ (subscriptTail _ _ (Value.ref _) (Value.int _ _)) _ _ _); k_dflt (refine' item_tupleT ?mwt ?mwa ?mwb ?mwc ?mwd ?_; (case mwt => exact News.isTup (by k_asm) (by walk_at "MineMem")); (case mwa => decide); (case mwb => decide); (case mwc => rfl); (case mwd => rfl); k_whole)))
      k_with "MineRoom" => (first | assumption | ktr_room | (dsimp only [ktrTop, Around.deeper, Around.in1] at *; simp only [recursionLimit] at *; omega))
      k_with "MineUnits" => (first | ktr_units | (have hcL9 := cLine_is; dsimp only [ktrTop, Around.deeper, Around.in1] at *; omega))
      k_with "And" => (((with_reducible show WrapAt _ _ ∧ _); k_dflt (refine ⟨WrapAt.of (by k_asm) (by walk_at "MineMemD"), ?_⟩); (try dsimp only [List.nil_append, List.cons_append])))
      k_with "eval Name" => ((k_here; (with_reducible show wpAny _ _ (eval (Expr.Name _ _) (compEnvC _ _ _ _)) _ _ _); k_dflt (first | refine LCgL.ld_own (by k_asm) (by walk_at "MineMem") (by assumption) (by assumption) ?_ | refine LCgL.ld_global (by k_asm) (by k_asm) (by k_asm) (by k_is) ?_ | refine LCgL.ld_built (by k_asm) (by k_asm) (by k_asm) (by k_is) (by boot_by_name) (by decide) ?_)))
      k_with "MineMemD" => ((repeat' (first | assumption | exact List.mem_cons_self | (refine List.mem_cons_of_mem _ ?_) | (refine List.mem_append.mpr (Or.inl ?_)) | fail "MineMemD")))
      k_with "call ref" => (refine Hid.out ?_)
      k_steps
      unfold Hid
      obtain ⟨fl, hfl0⟩ : ∃ l, l = (toldS c1 f).filter (keptD (toldS c2 g)) := ⟨_, rfl⟩
      rw [← hfl0] at D9 D22 hfk hfo hfl
      refine' tel_use (sub := B ++ e22) (typed_tel fl hfk hfl) (by k_asm) (by k_asm) (by k_asm) (by k_asm) (by k_asm) (by first | exact rfl | assumption) ?su1 (DatAll.cons D22 .nil) (by walk_at "MineRoom") (by walk_at "MineUnits") ?_
      case su1 =>
        intro p hp
        rcases List.mem_append.mp hp with hp | hp
        · exact List.mem_append.mpr (.inl (.tail _ (List.mem_append.mpr (.inl (hBL p hp)))))
        · exact List.mem_append.mpr (.inr hp)
      intro r23 e23 h23 tk23 F23 N23 o23 D23
      clear F22 N22
      k_with_none
      k_with "MineMem" => (first | (with_reducible assumption) | (with_reducible exact List.mem_cons_self) | ((with_reducible refine List.mem_append.mpr (Or.inl ?_)); walk_at "MineMem") | ((with_reducible refine List.mem_append.mpr (Or.inr ?_)); walk_at "MineMem") | ((with_reducible refine List.mem_cons_of_mem _ ?_); walk_at "MineMem"))
      k_with "eval ListComp" => ((k_here; k_dflt (refine LCg.ListComp_U (F₀ := by k_asm) (by with_unfolding_all rfl) (by decide) (by rfl) (by decide) (by rfl) ?_)))
      k_with "MineItem" => (first | exact DatIn.none | exact DatIn.bool _ | exact DatIn.int _ _ | exact DatIn.str _ _ | assumption | (refine DatIn.mono ?_ (by assumption); (intro p hp; (try simp only [List.mem_append, List.mem_cons] at hp ⊢); grind)))
      k_with "MineLt" => (first | assumption | exact allLt_of (by assumption) | tbn_find | (simp only [AllLt, and_true]; tbn_conj))
      k_with "MineTup" => ((refine DatIn.tuple (List.mem_append.mpr (Or.inr (List.Mem.head _))) ?_; repeat' (first | exact DatAll.nil | refine DatAll.cons ?_ ?_ | walk_at "MineItem")))
      k_with "TurnEnd" => ((refine TurnEnd.intro [(_, _)] (by assumption) (tl1 (by assumption)) (off1 (by walk_at "MineLt")) (by walk_at "MineTup")))
      k_with "MineSub" => (first | exact fun _ h => h | assumption | (intro p hp; first | (exact List.Mem.tail _ (by assumption)) | (simp only [List.mem_append, List.mem_cons, List.not_mem_nil, or_false] at hp ⊢; grind)))
      k_with "subscriptTail" => ((k_here; (with_reducible show wpAny _ _ (subscriptTail _ _ (Value.ref _) (Value.int _ _)) _ _ _); k_dflt (refine' item_tupleT ?mwt ?mwa ?mwb ?mwc ?mwd ?_; (case mwt => exact News.isTup (by k_asm) (by walk_at "MineMem")); (case mwa => decide); (case mwb => decide); (case mwc => rfl); (case mwd => rfl); k_whole)))
      k_with "MineRoom" => (first | assumption | ktr_room | (dsimp only [ktrTop, Around.deeper, Around.in1] at *; simp only [recursionLimit] at *; omega))
      k_with "MineUnits" => (first | ktr_units | (have hcL9 := cLine_is; dsimp only [ktrTop, Around.deeper, Around.in1] at *; omega))
      k_with "And" => (((with_reducible show WrapAt _ _ ∧ _); k_dflt (refine ⟨WrapAt.of (by k_asm) (by walk_at "MineMemD"), ?_⟩); (try dsimp only [List.nil_append, List.cons_append])))
      k_with "eval Name" => ((k_here; (with_reducible show wpAny _ _ (eval (Expr.Name _ _) (compEnvC _ _ _ _)) _ _ _); k_dflt (first | refine LCgL.ld_own (by k_asm) (by walk_at "MineMem") (by assumption) (by assumption) ?_ | refine LCgL.ld_global (by k_asm) (by k_asm) (by k_asm) (by k_is) ?_ | refine LCgL.ld_built (by k_asm) (by k_asm) (by k_asm) (by k_is) (by boot_by_name) (by decide) ?_)))
      k_with "MineMemD" => ((repeat' (first | assumption | exact List.mem_cons_self | (refine List.mem_cons_of_mem _ ?_) | (refine List.mem_append.mpr (Or.inl ?_)) | fail "MineMemD")))
      k_with "call ref" => (refine Hid.out ?_)
      k_steps
      unfold Hid
      refine' tel_use (sub := (S9, LCg.lst ys9) :: e9) (typed_tel fl hfk hfl) (by k_asm) (by k_asm) (by k_asm) (by k_asm) (by k_asm) (by first | exact rfl | assumption) ?su2 (DatAll.cons (DatIn.list (List.Mem.head _) (DatAll.mono (fun p hp => .tail _ hp) D9)) .nil) (by walk_at "MineRoom") (by walk_at "MineUnits") ?_
      case su2 =>
        intro p hp
        refine List.mem_append.mpr (.inl (List.mem_append.mpr (.inl ?_)))
        rcases List.mem_cons.mp hp with rfl | hp
        · exact .head _
        · exact .tail _ (List.mem_append.mpr (.inr hp))
      intro r24 e24 h24 tk24 F24 N24 o24 D24
      clear F23 N23
      dsimp only
      k_with_none
      k_with "MineMem" => (first | (with_reducible assumption) | (with_reducible exact List.mem_cons_self) | ((with_reducible refine List.mem_append.mpr (Or.inl ?_)); walk_at "MineMem") | ((with_reducible refine List.mem_append.mpr (Or.inr ?_)); walk_at "MineMem") | ((with_reducible refine List.mem_cons_of_mem _ ?_); walk_at "MineMem"))
      k_with "eval ListComp" => ((k_here; k_dflt (refine LCg.ListComp_U (F₀ := by k_asm) (by with_unfolding_all rfl) (by decide) (by rfl) (by decide) (by rfl) ?_)))
      k_with "MineItem" => (first | exact DatIn.none | exact DatIn.bool _ | exact DatIn.int _ _ | exact DatIn.str _ _ | assumption | (refine DatIn.mono ?_ (by assumption); (intro p hp; (try simp only [List.mem_append, List.mem_cons] at hp ⊢); grind)))
      k_with "MineLt" => (first | assumption | exact allLt_of (by assumption) | tbn_find | (simp only [AllLt, and_true]; tbn_conj))
      k_with "MineTup" => ((refine DatIn.tuple (List.mem_append.mpr (Or.inr (List.Mem.head _))) ?_; repeat' (first | exact DatAll.nil | refine DatAll.cons ?_ ?_ | walk_at "MineItem")))
      k_with "TurnEnd" => ((refine TurnEnd.intro [(_, _)] (by assumption) (tl1 (by assumption)) (off1 (by walk_at "MineLt")) (by walk_at "MineTup")))
      k_with "MineSub" => (first | exact fun _ h => h | assumption | (intro p hp; first | (exact List.Mem.tail _ (by assumption)) | (simp only [List.mem_append, List.mem_cons, List.not_mem_nil, or_false] at hp ⊢; grind)))
      k_with "subscriptTail" => ((k_here; (with_reducible show wpAny _ _ (subscriptTail _ _ (Value.ref _) (Value.int _ _)) _ _ _); k_dflt (refine' item_tupleT ?mwt ?mwa ?mwb ?mwc ?mwd ?_; (case mwt => exact News.isTup (by k_asm) (by walk_at "MineMem")); (case mwa => decide); (case mwb => decide); (case mwc => rfl); (case mwd => rfl); k_whole)))
      k_with "MineRoom" => (first | assumption | ktr_room | (dsimp only [ktrTop, Around.deeper, Around.in1] at *; simp only [recursionLimit] at *; omega))
      k_with "MineUnits" => (first | ktr_units | (have hcL9 := cLine_is; dsimp only [ktrTop, Around.deeper, Around.in1] at *; omega))
      k_with "And" => (((with_reducible show WrapAt _ _ ∧ _); k_dflt (refine ⟨WrapAt.of (by k_asm) (by walk_at "MineMemD"), ?_⟩); (try dsimp only [List.nil_append, List.cons_append])))
      k_with "eval Name" => ((k_here; (with_reducible show wpAny _ _ (eval (Expr.Name _ _) (compEnvC _ _ _ _)) _ _ _); k_dflt (first | refine LCgL.ld_own (by k_asm) (by walk_at "MineMem") (by assumption) (by assumption) ?_ | refine LCgL.ld_global (by k_asm) (by k_asm) (by k_asm) (by k_is) ?_ | refine LCgL.ld_built (by k_asm) (by k_asm) (by k_asm) (by k_is) (by boot_by_name) (by decide) ?_)))
      k_with "MineMemD" => ((repeat' (first | assumption | exact List.mem_cons_self | (refine List.mem_cons_of_mem _ ?_) | (refine List.mem_append.mpr (Or.inl ?_)) | fail "MineMemD")))
      k_with "compareOp NotEq" => (refine Hid.out ?_)
      k_steps
      unfold Hid
      have hokd : okD 8 (.list (fl.map typD)) = true := typed_okD _ hfo hfk
      refine' d_ne N24 D23 ?sn1 D24 ?sn2 hokd hokd ?hu9 ?_
      case sn1 => exact mem_led3 hBL
      case sn2 => exact mem_led4
      case hu9 => first | units_room | walk_at "MineUnits"
      rw [typed_self _ hfk, Bool.not_true]
      k_with_none
      k_with "MineMem" => (first | (with_reducible assumption) | (with_reducible exact List.mem_cons_self) | ((with_reducible refine List.mem_append.mpr (Or.inl ?_)); walk_at "MineMem") | ((with_reducible refine List.mem_append.mpr (Or.inr ?_)); walk_at "MineMem") | ((with_reducible refine List.mem_cons_of_mem _ ?_); walk_at "MineMem"))
      k_with "eval ListComp" => ((k_here; k_dflt (refine LCg.ListComp_U (F₀ := by k_asm) (by with_unfolding_all rfl) (by decide) (by rfl) (by decide) (by rfl) ?_)))
      k_with "MineItem" => (first | exact DatIn.none | exact DatIn.bool _ | exact DatIn.int _ _ | exact DatIn.str _ _ | assumption | (refine DatIn.mono ?_ (by assumption); (intro p hp; (try simp only [List.mem_append, List.mem_cons] at hp ⊢); grind)))
      k_with "MineLt" => (first | assumption | exact allLt_of (by assumption) | tbn_find | (simp only [AllLt, and_true]; tbn_conj))
      k_with "MineTup" => ((refine DatIn.tuple (List.mem_append.mpr (Or.inr (List.Mem.head _))) ?_; repeat' (first | exact DatAll.nil | refine DatAll.cons ?_ ?_ | walk_at "MineItem")))
      k_with "TurnEnd" => ((refine TurnEnd.intro [(_, _)] (by assumption) (tl1 (by assumption)) (off1 (by walk_at "MineLt")) (by walk_at "MineTup")))
      k_with "MineSub" => (first | exact fun _ h => h | assumption | (intro p hp; first | (exact List.Mem.tail _ (by assumption)) | (simp only [List.mem_append, List.mem_cons, List.not_mem_nil, or_false] at hp ⊢; grind)))
      k_with "subscriptTail" => ((k_here; (with_reducible show wpAny _ _ (subscriptTail _ _ (Value.ref _) (Value.int _ _)) _ _ _); k_dflt (refine' item_tupleT ?mwt ?mwa ?mwb ?mwc ?mwd ?_; (case mwt => exact News.isTup (by k_asm) (by walk_at "MineMem")); (case mwa => decide); (case mwb => decide); (case mwc => rfl); (case mwd => rfl); k_whole)))
      k_with "MineRoom" => (first | assumption | ktr_room | (dsimp only [ktrTop, Around.deeper, Around.in1] at *; simp only [recursionLimit] at *; omega))
      k_with "MineUnits" => (first | ktr_units | (have hcL9 := cLine_is; dsimp only [ktrTop, Around.deeper, Around.in1] at *; omega))
      k_with "And" => (((with_reducible show WrapAt _ _ ∧ _); k_dflt (refine ⟨WrapAt.of (by k_asm) (by walk_at "MineMemD"), ?_⟩); (try dsimp only [List.nil_append, List.cons_append])))
      k_with "eval Name" => ((k_here; (with_reducible show wpAny _ _ (eval (Expr.Name _ _) (compEnvC _ _ _ _)) _ _ _); k_dflt (first | refine LCgL.ld_own (by k_asm) (by walk_at "MineMem") (by assumption) (by assumption) ?_ | refine LCgL.ld_global (by k_asm) (by k_asm) (by k_asm) (by k_is) ?_ | refine LCgL.ld_built (by k_asm) (by k_asm) (by k_asm) (by k_is) (by boot_by_name) (by decide) ?_)))
      k_with "MineMemD" => ((repeat' (first | assumption | exact List.mem_cons_self | (refine List.mem_cons_of_mem _ ?_) | (refine List.mem_append.mpr (Or.inl ?_)) | fail "MineMemD")))
      k_with "SeqPost" => (refine Hid.out ?_)
      k_steps
      unfold Hid
      obtain ⟨XX, hXX⟩ : ∃ x, x = (S9, LCg.lst ys9) :: (e9 ++ e22 ++ e23 ++ e24) := ⟨_, rfl⟩
      have offXX : ∀ q ∈ L0, ∀ p ∈ XX, p.1 ≠ q.1 := by
        intro q hq p hp
        rw [hXX] at hp
        have hq1 : q ∈ (S9, LCg.lst ys9) :: (L0 ++ e9) := .tail _ (List.mem_append.mpr (.inl hq))
        rcases List.mem_cons.mp hp with rfl | hp
        · exact (off1_lt l21 q (List.mem_append.mpr (.inl hq))).symm
        simp only [List.mem_append] at hp
        rcases hp with ((hp | hp) | hp) | hp
        · exact o9 q hq p hp
        · exact o22 q hq1 p hp
        · exact o23 q (List.mem_append.mpr (.inl hq1)) p hp
        · exact o24 q (List.mem_append.mpr (.inl (List.mem_append.mpr (.inl hq1)))) p hp
      have N25 : News s₁.heap s₁.heap.objs.size h24 (L0 ++ XX) := newsIn N24 (by rw [hXX]; exact mem_led)
      have hIL : (I, oI) ∈ L0 := by rw [hL0, hE9]; exact .tail _ (.tail _ (.tail _ (.tail _ (.head _))))
      have hI2L : (I2, oI2) ∈ L0 := by rw [hL0, hE9]; exact .tail _ (.tail _ (.tail _ (.head _)))
      have hc1L : (s₁.heap.objs.size + 1, p1) ∈ L0 := by rw [hL0]; exact .head _
      have hc2L : (s₁.heap.objs.size + 1 + 1, p2) ∈ L0 := by rw [hL0]; exact .tail _ (.head _)
      have hc3L : (s₁.heap.objs.size + 1 + 1 + 1, p3') ∈ L0 := by rw [hL0]; exact .tail _ (.tail _ (.head _))
      clear N24 o9 o22 o23 o24 D22 D23 D24 D9
      refine SeqEnd.intro ((s₁.heap.objs.size + 1, p1) :: (s₁.heap.objs.size + 1 + 1, p2) :: (s₁.heap.objs.size + 1 + 1 + 1, p3') :: ([(I, oI)] ++ (B ++ (EI ++ XX)))) F24 (newsIn N25 ?_) hI2 ?_ ⟨?_, ?_⟩
      · rw [hL0, hE9]
        exact mem_led2
      · intro p hp
        rcases List.mem_cons.mp hp with rfl | hp
        · exact offj1
        rcases List.mem_cons.mp hp with rfl | hp
        · exact offj2
        rcases List.mem_cons.mp hp with rfl | hp
        · exact offj3
        rw [← List.append_assoc B, ← List.append_assoc] at hp
        rcases List.mem_append.mp hp with hp | hp
        · exact offI2 p (.tail _ (.tail _ (.tail _ hp)))
        · exact offXX _ hI2L p hp
      · exact .tail _ (.tail _ (.tail _ (List.mem_append.mpr (.inr (List.mem_append.mpr (.inl hm2))))))
      · refine ihI vsF2 (j + 1) _ hvalsI p1 p2 p3' _ (EI ++ XX) k3' k1 k2 ?_ ?_ (m2_other g1 (by decide) (by decide)) (m2_other g2 (by decide) (by decide)) (m2_other g3 (by decide) (by decide))
        · intro p hp
          rw [← List.append_assoc B, ← List.append_assoc] at hp
          rcases List.mem_append.mp hp with hp | hp
          · exact offEI p hp
          · exact ⟨offXX _ hc1L p hp, offXX _ hc2L p hp, offXX _ hc3L p hp⟩
        · intro q hq p hp
          rw [← List.append_assoc B] at hp
          rcases List.mem_append.mp hp with hp | hp
          · exact offXI q hq p hp
          · rw [List.mem_singleton.mp hq]
            exact offXX _ hIL p hp)
end Mine
theorem PySem.Challenge.cw_ij0164_01_holds : PySem.Challenge.rw_ij0164_01.Holds :=
  Mine.law_holds
