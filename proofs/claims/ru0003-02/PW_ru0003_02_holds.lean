import PyProof.Rows.All
import Wide.All
import OpenK.AllK
import Wide.FinOn
import PySem.Challenge.RW_ru0003_02
open PySem PySem.W PyProof.Rows
set_option Elab.async false
namespace Mine
section
local macro_rules
  | `(tactic| refine $t:term) => do
    match t with
    | `($f:ident $_*) =>
      unless f.getId == ``PySem.W.holds_open do Lean.Macro.throwUnsupported
      `(tactic| (refine' $t; (case hl => (intro w; unfold openEnds fencedOpening topFrom; rw [PySem.W.Fast.te14082659384304107361, PySem.W.Fast.te14364793385576792824, PySem.W.Fast.te10274390034422433532, PySem.W.Fast.te14289696077712309145, PySem.W.Fast.te4187177175401517315]; kernel_rfl))))
    | _ => Lean.Macro.throwUnsupported
set_option maxRecDepth 100000 in
set_option maxHeartbeats 8000000 in
open_top hd for PySem.Challenge.rw_ru0003_02
end

section
/-- no step takes a token back -/
theorem runs_toks {M : Model} {Γ : Ctx} {p : Pos} {t : Sem Fin} {fs : List Frame} {s s' : Shared} {e : End} (h : Runs M Γ p t fs s e s') : s.toks ≤ s'.toks := by
  induction h <;> (try simp only [Shared.setGen] at *) <;> (try dsimp only at *) <;> omega
theorem wp_toks {α : Type} {M : Model} {Γ : Ctx} {Q : α → Pos → Shared → Prop} {E : Value → Pos → Shared → Prop} (n : Nat) : ∀ (t : Sem α) (p : Pos) (s : Shared), n ≤ s.toks → Sem.wp M Γ t Q E p s →
    Sem.wp M Γ t (fun a p' s' => Q a p' s' ∧ n ≤ s'.toks) (fun e p' s' => E e p' s' ∧ n ≤ s'.toks) p s := by
  intro t
  induction t with
  | pure a => intro p s hn h; exact ⟨h, hn⟩
  | raise e => intro p s hn h; exact ⟨h, hn⟩
  | unsupported => intro p s hn h; exact h
  | finish => intro p s hn h; exact h
  | register => intro p s hn h; exact h
  | yield => intro p s hn h; exact h
  | fork => intro p s hn h; exact h
  | await => intro p s hn h; exact h
  | rule _ k ih => intro p s hn h; exact ih _ _ _ hn h
  | «at» _ k ih => intro p s hn h; exact ih _ _ _ hn h
  | point _ k ih => intro p s hn h; exact ih _ _ _ hn h
  | loadIfAlive _ k ih => intro p s hn h; exact ih _ _ _ hn h
  | alloc _ k ih => intro p s hn h; exact ih _ _ _ hn h
  | ask k ih => intro p s hn h; exact ih _ _ _ hn h
  | os _ _ k ih => intro p s hn h; exact ih _ _ _ hn h
  | handled _ k ih => intro p s hn h; exact ih _ _ _ hn h
  | newGen _ k ih => intro p s hn h; exact ih _ _ _ hn h
  | stack k ih => intro p s hn h; exact ih _ _ _ hn h
  | thread k ih => intro p s hn h; exact ih _ _ _ hn h
  | fresh k ih => intro p s hn h; exact ih _ _ _ (Nat.le_succ_of_le hn) h
  | load _ _ k ih => intro p s hn h; obtain ⟨o, h1, h2⟩ := h; exact ⟨o, h1, ih _ _ _ hn h2⟩
  | update _ _ _ k ih => intro p s hn h; exact ⟨h.1, ih _ _ _ hn h.2⟩
  | choose _ _ k ih => intro p s hn h; exact ⟨h.1, ih _ _ _ hn h.2⟩
  | genState _ k ih => intro p s hn h; obtain ⟨o, h1, h2⟩ := h; exact ⟨o, h1, ih _ _ _ hn h2⟩
  | call c hd g l k ih =>
    intro p s hn h
    obtain ⟨r, s', hr, h2⟩ := h
    exact ⟨r, s', hr, ih _ _ _ (Nat.le_trans hn (runs_toks hr)) h2⟩
  | resume g r l k ih =>
    intro p s hn h
    obtain ⟨res, s', hw, h2⟩ := h
    refine ⟨res, s', hw, ih _ _ _ (Nat.le_trans hn ?_) h2⟩
    unfold Wakes at hw
    split at hw
    · exact hw.elim
    · split at hw
      · obtain ⟨e₁, s₁, h1, _, _, rfl⟩ := hw
        have := runs_toks h1
        simpa only [Shared.setGen] using this
      · rw [hw.2]; exact Nat.le_refl _
      · rw [hw.2]; exact Nat.le_refl _
    · obtain ⟨e₁, s₁, h1, _, _, rfl⟩ := hw
      have := runs_toks h1
      simpa only [Shared.setGen] using this
    · rw [hw.2]; exact Nat.le_refl _
    · rw [hw.2]; exact Nat.le_refl _
theorem wpAny_toks {α : Type} {M : Model} {A : Around} {t : Sem α} {Q : α → Shared → Prop} {E : Value → Shared → Prop} {s : Shared} (h : wpAny M A t Q E s) :
    wpAny M A t (fun a s' => Q a s' ∧ s.toks ≤ s'.toks) (fun e s' => E e s' ∧ s.toks ≤ s'.toks) s :=
  fun Γ p hΓ => wp_toks s.toks t p s (Nat.le_refl _) (h Γ p hΓ)
end

section
/-- what a call of the def at f tells: from the ledger led (and anything else, own) it comes back with r and led' -/
def Con (w : World) (f : Addr) (D U : Nat) (led : List (Addr × Obj)) (args : List Value) (Post : Value → List (Addr × Obj) → Prop) : Prop :=
  ∀ (mean : ExcName → Option Value) (mg mb : Str → Option Value) (dp un : Nat) (gd : Option (List Code)) (cn : Str) (cs : Scope) (a : Addr) (ccd : Value) (cl : List (Str × Addr)) (outer : List Env) (A₀ : Around) (base h₀ : Heap) (L : Addr) (m : Str → Option Value) (own : List (Addr × Obj)) (s : Shared) (Q E : Value → Shared → Prop),
    Below A₀ base outer h₀ → Fr h₀ L s.heap m → (hd.heap_39 w.params).In h₀ → News h₀ L s.heap (led ++ own) → Top hd.view_39 (looseW hd.view_39 [Str.ofString "HTMLUnicodeInputStream", Str.ofString "_law_SIGNS"]) mean mg mb h₀ → cs.kind = .function →
    OwnOff own (led.map (·.1)) → dp + D < recursionLimit → un + U < cLine →
    (∀ r led' h' tk', Fr h₀ L h' m → News h₀ L h' (led' ++ own) → Post r led' → Q r { s with heap := h', toks := tk' }) →
    wpAny (model (RowW.prog (OpenRow.toRowW (OpenLaw.row PySem.Challenge.rw_ru0003_02))) w) (ktrTop dp un gd cn cs L a ccd cl outer) (call (.ref f) args) Q E s
/-- the same, of the code that the call runs -/
def ConC (w : World) (f : Addr) (D U : Nat) (led : List (Addr × Obj)) (args : List Value) (Post : Value → List (Addr × Obj) → Prop) : Prop :=
  ∀ (mean : ExcName → Option Value) (mg mb : Str → Option Value) (dp un : Nat) (gd : Option (List Code)) (cn : Str) (cs : Scope) (a : Addr) (ccd : Value) (cl : List (Str × Addr)) (outer : List Env) (A₀ : Around) (base h₀ : Heap) (L : Addr) (m : Str → Option Value) (own : List (Addr × Obj)) (s : Shared) (Q E : Value → Shared → Prop),
    Below A₀ base outer h₀ → Fr h₀ L s.heap m → (hd.heap_39 w.params).In h₀ → News h₀ L s.heap (led ++ own) → Top hd.view_39 (looseW hd.view_39 [Str.ofString "HTMLUnicodeInputStream", Str.ofString "_law_SIGNS"]) mean mg mb h₀ → cs.kind = .function →
    OwnOff own (led.map (·.1)) → dp + D < recursionLimit → un + U < cLine →
    (∀ r led' h' tk', Fr h₀ L h' m → News h₀ L h' (led' ++ own) → Post r led' → Q r { s with heap := h', toks := tk' }) →
    codeAny (model (RowW.prog (OpenRow.toRowW (OpenLaw.row PySem.Challenge.rw_ru0003_02))) w) (ktrTop dp un gd cn cs L a ccd cl outer) (.call (.ref f) ⟨args, []⟩) (fun r s' => match r with | .ok (.ret v) => Q v s' | .ok _ => False | .error e => E e s') s
theorem ConC.con {w : World} {f : Addr} {D U : Nat} {led : List (Addr × Obj)} {args : List Value} {Post : Value → List (Addr × Obj) → Prop} (C : ConC w f D U led args Post) : Con w f D U led args Post :=
  fun mean mg mb dp un gd cn cs a ccd cl outer A₀ base h₀ L m own s Q E B F X N T hk hoff hd hu hret => wpAny_call (C mean mg mb dp un gd cn cs a ccd cl outer A₀ base h₀ L m own s Q E B F X N T hk hoff hd hu hret)
theorem con_use {w : World} {f : Addr} {D U : Nat} {led : List (Addr × Obj)} {args : List Value} {Post : Value → List (Addr × Obj) → Prop} (C : Con w f D U led args Post) (own : List (Addr × Obj))
    {mean : ExcName → Option Value} {mg mb : Str → Option Value} {dp un : Nat} {gd : Option (List Code)} {cn : Str} {cs : Scope} {a : Addr} {ccd : Value} {cl : List (Str × Addr)} {outer : List Env} {A₀ : Around} {base h₀ : Heap} {L : Addr} {m : Str → Option Value} {s : Shared} {Q E : Value → Shared → Prop}
    (B : Below A₀ base outer h₀) (F : Fr h₀ L s.heap m) (X : (hd.heap_39 w.params).In h₀) (N : News h₀ L s.heap (led ++ own)) (T : Top hd.view_39 (looseW hd.view_39 [Str.ofString "HTMLUnicodeInputStream", Str.ofString "_law_SIGNS"]) mean mg mb h₀) (hk : cs.kind = .function)
    (hoff : OwnOff own (led.map (·.1))) (hd : dp + D < recursionLimit) (hu : un + U < cLine)
    (ret : ∀ r led' h' tk', Post r led' → Fr h₀ L h' m → News h₀ L h' (led' ++ own) → Q r { s with heap := h', toks := tk' }) :
    wpAny (model (RowW.prog (OpenRow.toRowW (OpenLaw.row PySem.Challenge.rw_ru0003_02))) w) (ktrTop dp un gd cn cs L a ccd cl outer) (call (.ref f) args) Q E s :=
  C mean mg mb dp un gd cn cs a ccd cl outer A₀ base h₀ L m own s Q E B F X N T hk hoff hd hu fun r led' h' tk' F' N' p => ret r led' h' tk' p F' N'
theorem con_use0 {w : World} {f : Addr} {D U : Nat} {args : List Value} {Post : Value → List (Addr × Obj) → Prop} (C : Con w f D U [] args Post) {own : List (Addr × Obj)}
    {mean : ExcName → Option Value} {mg mb : Str → Option Value} {dp un : Nat} {gd : Option (List Code)} {cn : Str} {cs : Scope} {a : Addr} {ccd : Value} {cl : List (Str × Addr)} {outer : List Env} {A₀ : Around} {base h₀ : Heap} {L : Addr} {m : Str → Option Value} {s : Shared} {Q E : Value → Shared → Prop}
    (B : Below A₀ base outer h₀) (F : Fr h₀ L s.heap m) (X : (hd.heap_39 w.params).In h₀) (N : News h₀ L s.heap own) (T : Top hd.view_39 (looseW hd.view_39 [Str.ofString "HTMLUnicodeInputStream", Str.ofString "_law_SIGNS"]) mean mg mb h₀) (hk : cs.kind = .function)
    (hd : dp + D < recursionLimit) (hu : un + U < cLine)
    (ret : ∀ r led' h' tk', Post r led' → Fr h₀ L h' m → News h₀ L h' (led' ++ own) → Q r { s with heap := h', toks := tk' }) :
    wpAny (model (RowW.prog (OpenRow.toRowW (OpenLaw.row PySem.Challenge.rw_ru0003_02))) w) (ktrTop dp un gd cn cs L a ccd cl outer) (call (.ref f) args) Q E s :=
  con_use C own B F X N T hk (fun _ _ _ hb => nomatch hb) hd hu ret
theorem con_useN {w : World} {f : Addr} {D U : Nat} {led : List (Addr × Obj)} {args : List Value} {Post : Value → List (Addr × Obj) → Prop} {own : List (Addr × Obj)}
    {mean : ExcName → Option Value} {mg mb : Str → Option Value} {dp un : Nat} {gd : Option (List Code)} {cn : Str} {cs : Scope} {a : Addr} {ccd : Value} {cl : List (Str × Addr)} {outer : List Env} {A₀ : Around} {base h₀ : Heap} {L : Addr} {m : Str → Option Value} {s : Shared} {Q E : Value → Shared → Prop}
    (N : News h₀ L s.heap (led ++ own)) (C : Con w f D U led args Post) (B : Below A₀ base outer h₀) (F : Fr h₀ L s.heap m) (X : (hd.heap_39 w.params).In h₀) (T : Top hd.view_39 (looseW hd.view_39 [Str.ofString "HTMLUnicodeInputStream", Str.ofString "_law_SIGNS"]) mean mg mb h₀) (hk : cs.kind = .function)
    (hoff : OwnOff own (led.map (·.1))) (hd : dp + D < recursionLimit) (hu : un + U < cLine)
    (ret : ∀ r led' h' tk', Post r led' → Fr h₀ L h' m → News h₀ L h' (led' ++ own) → Q r { s with heap := h', toks := tk' }) :
    wpAny (model (RowW.prog (OpenRow.toRowW (OpenLaw.row PySem.Challenge.rw_ru0003_02))) w) (ktrTop dp un gd cn cs L a ccd cl outer) (call (.ref f) args) Q E s :=
  con_use C own B F X N T hk hoff hd hu ret
theorem con_meth {w : World} {f : Addr} {D U : Nat} {led : List (Addr × Obj)} {self : Value} {Post : Value → List (Addr × Obj) → Prop} {own : List (Addr × Obj)} {q : Addr} {pos : List Value}
    {mean : ExcName → Option Value} {mg mb : Str → Option Value} {dp un : Nat} {gd : Option (List Code)} {cn : Str} {cs : Scope} {a : Addr} {ccd : Value} {cl : List (Str × Addr)} {outer : List Env} {A₀ : Around} {base h₀ : Heap} {L : Addr} {m : Str → Option Value} {s : Shared} {Q E : Value → Shared → Prop}
    (N : News h₀ L s.heap (led ++ own)) (hq : (q, methodObj (.ref f) self) ∈ led ++ own) (C : ConC w f D U led (self :: pos) Post) (B : Below A₀ base outer h₀) (F : Fr h₀ L s.heap m) (X : (hd.heap_39 w.params).In h₀) (T : Top hd.view_39 (looseW hd.view_39 [Str.ofString "HTMLUnicodeInputStream", Str.ofString "_law_SIGNS"]) mean mg mb h₀) (hk : cs.kind = .function)
    (hoff : OwnOff own (led.map (·.1))) (hd : dp + D < recursionLimit) (hu : un + U < cLine)
    (ret : ∀ r led' h' tk', Post r led' → Fr h₀ L h' m → News h₀ L h' (led' ++ own) → Q r { s with heap := h', toks := tk' }) :
    wpAny (model (RowW.prog (OpenRow.toRowW (OpenLaw.row PySem.Challenge.rw_ru0003_02))) w) (ktrTop dp un gd cn cs L a ccd cl outer) (call (.ref q) pos) Q E s :=
  call_meth N hq (C mean mg mb dp un gd cn cs a ccd cl outer A₀ base h₀ L m own s Q E B F X N T hk hoff hd hu fun r led' h' tk' F' N' p => ret r led' h' tk' p F' N')
end

section
open PySem.Builtin PySem.Builtin.Str PySem.StrLaws

def colFrom (c : Int) (l : List Nat) : Int := l.foldl (fun c s => if s = 10 then 0 else c + 1) c
theorem colFrom_nil (c : Int) : colFrom c [] = c := rfl
theorem colFrom_append (c : Int) (a b : List Nat) : colFrom c (a ++ b) = colFrom (colFrom c a) b := by
  unfold colFrom; rw [List.foldl_append]
theorem colFrom_free : ∀ (l : List Nat) (c : Int), 10 ∉ l → colFrom c l = c + l.length
  | [], c, _ => by simp [colFrom]
  | a :: r, c, h => by
    have ha : a ≠ 10 := fun e => h (e ▸ List.mem_cons_self)
    have hr : 10 ∉ r := fun e => h (List.mem_cons_of_mem _ e)
    have : colFrom c (a :: r) = colFrom (c + 1) r := by simp [colFrom, ha]
    rw [this, colFrom_free r (c + 1) hr, List.length_cons]
    omega
theorem colFrom_cut (c : Int) (a b : List Nat) (h : 10 ∉ b) : colFrom c (a ++ 10 :: b) = b.length := by
  rw [colFrom_append]
  have : ∀ d, colFrom d (10 :: b) = colFrom 0 b := fun d => by simp [colFrom]
  rw [this, colFrom_free b 0 h]; omega

theorem occ_one_run (x : Str) (c hi limit : Nat) : ∀ (m cur : Nat) (st : Array Nat × Nat), st.snd ≤ cur → st.fst.size + m ≤ limit → hi ≤ x.length →
    (forIn (List.range' cur m) st (occBody x ⟨#[c]⟩ hi limit)).run.fst.size = st.fst.size + (((x.cps.toList.take hi).drop cur).take m).count c
  | 0, cur, st, _, _, _ => by simp [Id.run]; rfl
  | m + 1, cur, st, h1, h2, h3 => by
    rw [List.range'_succ, List.forIn_cons]
    unfold occBody
    have hx : x.cps.toList.length = x.length := by simp [Str.length]
    by_cases hc : cur + 1 ≤ hi ∧ x.cps.toList[cur]? = some c
    · have hA := (subAt_one x c cur).mpr hc.2
      have c1 : ((st.fst.size < limit ∧ st.snd ≤ cur) ∧ cur + (⟨#[c]⟩ : Str).length ≤ hi) ∧ subAt x ⟨#[c]⟩ cur = true := ⟨⟨⟨by omega, h1⟩, hc.1⟩, hA.2⟩
      rw [if_pos c1]
      have ih := occ_one_run x c hi limit m (cur + 1) (st.fst.push cur, cur + (⟨#[c]⟩ : Str).length) (Nat.le_refl _) (by simp only [Array.size_push]; omega) h3
      refine Eq.trans ih ?_
      have hd : (x.cps.toList.take hi).drop cur = c :: (x.cps.toList.take hi).drop (cur + 1) := by
        have hl : cur < (x.cps.toList.take hi).length := by rw [List.length_take]; omega
        rw [List.drop_eq_getElem_cons hl]
        congr 1
        have := (List.getElem?_eq_some_iff.mp hc.2).2
        simpa using this
      rw [hd, List.take_succ_cons, List.count_cons_self, Array.size_push]
      omega
    · have c2 : ¬ (((st.fst.size < limit ∧ st.snd ≤ cur) ∧ cur + (⟨#[c]⟩ : Str).length ≤ hi) ∧ subAt x ⟨#[c]⟩ cur = true) := fun h => hc ⟨h.1.2, (subAt_one x c cur).mp ⟨Nat.le_trans h.1.2 h3, h.2⟩⟩
      rw [if_neg c2]
      have ih := occ_one_run x c hi limit m (cur + 1) (st.fst, st.snd) (Nat.le_succ_of_le h1) (by simp only; omega) h3
      refine Eq.trans ih ?_
      congr 1
      by_cases hl : cur < (x.cps.toList.take hi).length
      · have hd := List.drop_eq_getElem_cons hl
        rw [hd, List.take_succ_cons, List.count_cons]
        have hne : ((x.cps.toList.take hi)[cur] == c) = false := by
          rw [beq_eq_false_iff_ne]
          intro e
          refine hc ⟨?_, ?_⟩
          · rw [List.length_take] at hl; omega
          · rw [List.getElem_take] at e
            rw [List.getElem?_eq_getElem (by rw [List.length_take] at hl; omega), e]
        rw [hne]; simp
      · have e1 : (x.cps.toList.take hi).drop cur = [] := List.drop_eq_nil_of_le (by omega)
        have e2 : (x.cps.toList.take hi).drop (cur + 1) = [] := List.drop_eq_nil_of_le (by omega)
        rw [e1, e2]; simp

theorem occ_one (x : Str) (c hi : Nat) (h : hi ≤ x.length) : (occurrences x ⟨#[c]⟩ 0 hi (x.length + 1)).length = (x.cps.toList.take hi).count c := by
  rw [occ_eq]
  have := occ_one_run x c hi (x.length + 1) (hi + 1 - 0) 0 ((#[] : Array Nat), 0) (Nat.le_refl _) (by simp; omega) h
  rw [Array.length_toList, this]
  simp only [List.size_toArray, List.length_nil, Nat.zero_add, List.drop_zero, Nat.sub_zero]
  rw [List.take_of_length_le]
  rw [List.length_take]; omega

theorem last_at (x y : Str) (hi : Nat) : (lastOccurrence x y 0 hi = none ∧ ∀ i, ¬ At x y hi i) ∨ ∃ i, lastOccurrence x y 0 hi = some i ∧ At x y hi i ∧ ∀ k, i < k → ¬ At x y hi k := by
  rw [last_eq]
  have key := last_run x y hi (List.range' 0 (hi + 1 - 0)) [] none (fun _ h => nomatch h) (fun _ h => nomatch h) (by simpa using List.pairwise_lt_range' (s := 0) (n := hi + 1 - 0))
  have mem : ∀ i, At x y hi i → i ∈ [] ++ List.range' 0 (hi + 1 - 0) := fun i hi' => by have := hi'.1; simp [List.mem_range'] <;> omega
  cases hr : (forIn (List.range' 0 (hi + 1 - 0)) none (lastBody x y hi)).run with
  | none => rw [hr] at key; exact .inl ⟨rfl, fun i hi' => key i (mem i hi') hi'⟩
  | some a => rw [hr] at key; exact .inr ⟨a, rfl, key.1, fun k hk hA => key.2 k (mem k hA) hk hA⟩

/-- the column, as _position reckons it -/
theorem col_last (x : Str) (hi : Nat) (h : hi ≤ x.length) (c : Int) :
    (lastOccurrence x ⟨#[10]⟩ 0 hi = none ∧ colFrom c (x.cps.toList.take hi) = c + hi) ∨ ∃ i : Nat, lastOccurrence x ⟨#[10]⟩ 0 hi = some i ∧ colFrom c (x.cps.toList.take hi) = (hi : Int) - ((i : Int) + 1) := by
  have hx : x.cps.toList.length = x.length := by simp [Str.length]
  have hlen : (x.cps.toList.take hi).length = hi := by rw [List.length_take]; omega
  have at_iff : ∀ i, At x ⟨#[10]⟩ hi i ↔ (x.cps.toList.take hi)[i]? = some 10 := fun i => by
    constructor
    · intro hA
      have h1 : i + 1 ≤ hi := hA.1
      have h2 := (subAt_one x 10 i).mp ⟨Nat.le_trans h1 h, hA.2⟩
      rw [List.getElem?_take_of_lt (by omega)]; exact h2
    · intro e
      have hl : i < hi := by have := (List.getElem?_eq_some_iff.mp e).1; omega
      rw [List.getElem?_take_of_lt hl] at e
      exact ⟨hl, ((subAt_one x 10 i).mpr e).2⟩
  rcases last_at x ⟨#[10]⟩ hi with ⟨e, hn⟩ | ⟨i, e, hA, hn⟩
  · refine .inl ⟨e, ?_⟩
    rw [colFrom_free, hlen]
    intro hm
    obtain ⟨i, hi'⟩ := List.getElem?_of_mem hm
    exact hn i ((at_iff i).mpr hi')
  · refine .inr ⟨i, e, ?_⟩
    have h1 := (at_iff i).mp hA
    obtain ⟨hl, hv⟩ := List.getElem?_eq_some_iff.mp h1
    have hsplit : x.cps.toList.take hi = (x.cps.toList.take hi).take i ++ 10 :: (x.cps.toList.take hi).drop (i + 1) := by
      conv => lhs; rw [← List.take_append_drop i (x.cps.toList.take hi)]
      rw [List.drop_eq_getElem_cons hl, hv]
    rw [hsplit, colFrom_cut]
    · rw [List.length_drop, hlen]; omega
    · intro hm
      obtain ⟨j, hj⟩ := List.getElem?_of_mem hm
      rw [List.getElem?_drop] at hj
      exact hn (i + 1 + j) (by omega) ((at_iff _).mpr hj)

section
variable {prog : Program} {w : World} {A : Around} {E : Value → Shared → Prop} {s : Shared} {x y : Str} {t u v v' : Tok} {i j : Int} {Q : Value → Shared → Prop}
theorem gives_count4 (x y : Str) (i j : Int) (t u v v' : Tok) : Gives («str.count» ⟨[.str x t, .str y u, .int i v, .int j v'], []⟩) (.int (occurrences x y (fromIndex x.length i) (min (fromIndex x.length j) x.length) (x.length + 1)).length) := by
  show Gives (retInt (occurrences x y (fromIndex x.length i) (min (fromIndex x.length j) x.length) (x.length + 1)).length) _
  exact .of_eq rfl
theorem gives_rfind4 (x y : Str) (i j : Int) (t u v v' : Tok) : Gives («str.rfind» ⟨[.str x t, .str y u, .int i v, .int j v'], []⟩) (.int (match lastOccurrence x y (fromIndex x.length i) (min (fromIndex x.length j) x.length) with | some i => (i : Int) | none => -1)) := by
  show Gives (match lastOccurrence x y (fromIndex x.length i) (min (fromIndex x.length j) x.length) with | some i => retInt i | none => (do rule "str.rfind.not-found"; retInt (-1))) _
  cases lastOccurrence x y (fromIndex x.length i) (min (fromIndex x.length j) x.length) with
  | none => exact .rule (.of_eq rfl)
  | some i => exact .of_eq rfl
theorem hi_of {n : Nat} {o : Int} (h0 : 0 ≤ o) (h : o ≤ n) : min (fromIndex n o) n = o.toNat := by
  unfold fromIndex
  rw [if_neg (by omega)]; omega
theorem call_count4 {o : Int} (hy : y = ⟨#[10]⟩) (h0 : 0 ≤ o) (ho : o ≤ x.length) (h : ∀ t' k, Q (.int ((x.cps.toList.take o.toNat).count 10 : Nat) t') { s with toks := k }) :
    wpAny (model prog w) A (call (.builtin "str.count") [.str x t, .str y u, .int 0 v, .int o v']) Q E s := by
  refine call_gives F.slot_str_count (typeIs_str _ _ _) F.entry_str_count (F.args_str_count_4 _ _ _ _) (gives_count4 x y 0 o t u v v') ?_
  have e := occ_one x 10 o.toNat (by omega)
  rw [hi_of h0 ho, hy]
  show Q (.int ((occurrences x ⟨#[10]⟩ 0 o.toNat (x.length + 1)).length : Nat) _) _
  rw [e]; exact h _ _
theorem call_rfind4 {o : Int} (c : Int) (hy : y = ⟨#[10]⟩) (h0 : 0 ≤ o) (ho : o ≤ x.length)
    (h : ∀ (z : Int) t' k, (z = -1 ∧ colFrom c (x.cps.toList.take o.toNat) = c + o) ∨ (0 ≤ z ∧ colFrom c (x.cps.toList.take o.toNat) = o - (z + 1)) → Q (.int z t') { s with toks := k }) :
    wpAny (model prog w) A (call (.builtin "str.rfind") [.str x t, .str y u, .int 0 v, .int o v']) Q E s := by
  refine call_gives F.slot_str_rfind (typeIs_str _ _ _) F.entry_str_rfind (F.args_str_rfind_4 _ _ _ _) (gives_rfind4 x y 0 o t u v v') ?_
  rw [hi_of h0 ho, hy]
  show Q (.int (match lastOccurrence x ⟨#[10]⟩ 0 o.toNat with | some i => (i : Int) | none => -1) _) _
  rcases col_last x o.toNat (by omega) c with ⟨e, hc⟩ | ⟨i, e, hc⟩
  · rw [e]; exact h (-1) _ _ (.inl ⟨rfl, by rw [hc]; omega⟩)
  · rw [e]; exact h (i : Int) _ _ (.inr ⟨by omega, by rw [hc]; omega⟩)
end
end

section
open PySem.Builtin PySem.Builtin.Str PySem.StrLaws
theorem len_list (x : Str) : x.cps.toList.length = x.length := by simp [Str.length]
theorem slice_is (x : Str) (l u : Option Int) : Txt.slice x l u = sliceText x l u := rfl
theorem slice_mid {x : Str} {i j : Int} (h0 : 0 ≤ i) (h1 : i ≤ j) (h2 : j ≤ x.length) : (Txt.slice x (some i) (some j)).cps.toList = (x.cps.toList.drop i.toNat).take (j - i).toNat := by
  rw [slice_is, sliceText_plain ⟨h0, h1, by rw [len_list]; exact h2⟩]
theorem slice_from {x : Str} {i : Int} (h0 : 0 ≤ i) (h2 : i ≤ x.length) : (Txt.slice x (some i) none).cps.toList = x.cps.toList.drop i.toNat := by
  rw [slice_is, sliceText_from ⟨h0, by rw [len_list]; exact h2⟩]
  show (x.cps.toList.drop i.toNat).take _ = _
  rw [List.take_of_length_le]
  rw [List.length_drop]; omega
theorem slice_to {x : Str} {j : Int} (h0 : 0 ≤ j) (h2 : j ≤ x.length) : (Txt.slice x none (some j)).cps.toList = x.cps.toList.take j.toNat := by
  rw [slice_is, sliceText_to ⟨h0, by rw [len_list]; exact h2⟩]
  simp
theorem slice_but {x : Str} (h : 1 ≤ x.length) : (Txt.slice x none (some (-1))).cps.toList = x.cps.toList.take (x.length - 1) := by
  rw [slice_is, sliceText_to_neg (by omega) (by omega)]
  simp only [List.drop_zero]
  congr 1
  omega
theorem slice_clip (x : Str) (i j : Int) (h : (x.length : Int) ≤ j) : Txt.slice x (some i) (some j) = Txt.slice x (some i) (some (x.length : Int)) := by
  rw [slice_is, slice_is]
  unfold sliceText
  have e : strSliceIndices (some i) (some j) 1 x.length = strSliceIndices (some i) (some (x.length : Int)) 1 x.length := by
    simp only [strSliceIndices]
    have a : ¬ (j < 0) := by omega
    have b : ¬ ((x.length : Int) < 0) := by omega
    have k : max (0 : Int) (min j (x.length : Int)) = max (0 : Int) (min (x.length : Int) (x.length : Int)) := by omega
    simp only [if_neg a, if_neg b, k, show (1 : Int) > 0 by decide, if_true]
  rw [e]
theorem slice_part {x : Str} {i n : Int} (h0 : 0 ≤ i) (h1 : i ≤ x.length) (hn : 0 ≤ n) : (Txt.slice x (some i) (some (i + n))).cps.toList = (x.cps.toList.drop i.toNat).take n.toNat := by
  by_cases h : i + n ≤ x.length
  · rw [slice_mid h0 (by omega) h]; congr 1; omega
  · rw [slice_clip x i (i + n) (by omega), slice_mid h0 h1 (Int.le_refl _)]
    rw [List.take_of_length_le, List.take_of_length_le]
    · rw [List.length_drop, len_list]; omega
    · rw [List.length_drop, len_list]; omega
end

section
/-- line ends mended: b says that the sign before was a CR -/
def mendFrom : Bool → List Nat → List Nat
  | _, [] => []
  | b, c :: r => if c = 13 then 10 :: mendFrom true r else if c = 10 ∧ b = true then mendFrom false r else c :: mendFrom false r
abbrev mend (l : List Nat) : List Nat := mendFrom false l
/-- what stands in the place of the held sign -/
def bufl : Value → List Nat
  | .str s _ => s.cps.toList
  | _ => []
theorem part_facts {α : Type} {l xl : List α} {p n : Nat} (h : xl = (l.drop p).take n) (hp : p ≤ l.length) :
    p + xl.length ≤ l.length ∧ xl ++ l.drop (p + xl.length) = l.drop p ∧ (xl.length < n → l.drop (p + xl.length) = []) ∧ l.take (p + xl.length) = l.take p ++ xl := by
  have hl : xl.length = min n (l.length - p) := by rw [h, List.length_take, List.length_drop]
  have hk : xl = (l.drop p).take xl.length := by
    conv => lhs; rw [h]
    rw [hl]
    by_cases hn : n ≤ l.length - p
    · rw [Nat.min_eq_left hn]
    · rw [Nat.min_eq_right (by omega), List.take_of_length_le (by rw [List.length_drop]; omega), List.take_of_length_le (by rw [List.length_drop]; omega)]
  refine ⟨by omega, ?_, ?_, ?_⟩
  · conv => lhs; lhs; rw [hk]
    rw [← List.drop_drop]
    exact List.take_append_drop _ _
  · intro hlt
    refine List.drop_eq_nil_of_le ?_
    omega
  · conv => rhs; rhs; rw [hk]
    rw [List.take_add]
end

section
open PySem.Builtin PySem.Builtin.Str PySem.StrLaws
/-- a law of replace: f puts z in the place of y, from the left -/
structure Reps (y z : List Nat) (f : List Nat → List Nat) : Prop where
  h0 : f [] = []
  h1 : ∀ c r, (c :: r).take y.length ≠ y → f (c :: r) = c :: f r
  h2 : ∀ r, f (y ++ r) = z ++ f r
theorem reps_free {y z : List Nat} {f : List Nat → List Nat} (R : Reps y z f) : ∀ (n : Nat) (l : List Nat), n ≤ l.length → (∀ k, k < n → (l.drop k).take y.length ≠ y) → f l = l.take n ++ f (l.drop n)
  | 0, l, _, _ => by simp
  | n + 1, [], h, _ => by simp at h
  | n + 1, c :: r, h, hn => by
    rw [R.h1 c r (by simpa using hn 0 (by omega)), reps_free R n r (by simpa using h) (fun k hk => by simpa using hn (k + 1) (by omega))]
    simp
theorem reps_none {y z : List Nat} {f : List Nat → List Nat} (R : Reps y z f) (l : List Nat) (h : ∀ k, (l.drop k).take y.length ≠ y) : f l = l := by
  rw [reps_free R l.length l (Nat.le_refl _) fun k _ => h k]
  simp [R.h0]
theorem at_list {x y : Str} {i : Nat} : At x y x.length i ↔ i + y.length ≤ x.length ∧ (x.cps.toList.drop i).take y.cps.toList.length = y.cps.toList := by
  unfold At
  rw [subAt_eq, beq_iff_eq, len_list y]
theorem not_at {x y : Str} {i : Nat} (hy : 1 ≤ y.length) (h : ¬ At x y x.length i) : (x.cps.toList.drop i).take y.cps.toList.length ≠ y.cps.toList := by
  intro e
  refine h (at_list.mpr ⟨?_, e⟩)
  have := congrArg List.length e
  rw [List.length_take, List.length_drop, len_list, len_list] at this
  omega
theorem join_parts {x y z : Str} {f : List Nat → List Nat} (hy : 1 ≤ y.length) (R : Reps y.cps.toList z.cps.toList f) : ∀ (cuts : List Nat) (a e : Nat), a ≤ x.length → ChainG x y x.length a cuts e → (∀ k, e ≤ k → ¬ At x y x.length k) →
    (Str.join z (partsFrom x y.length a cuts)).cps.toList = f (x.cps.toList.drop a)
  | [], a, e, ha, h, hn => by
    have e' : e = a := h
    subst e'
    show (strSub x e x.length).cps.toList = _
    rw [strSub_toList, reps_none R]
    · rw [List.take_of_length_le]
      rw [List.length_drop, len_list]; omega
    · intro k
      rw [List.drop_drop]
      exact not_at hy (hn _ (by omega))
  | c :: r, a, e, ha, h, hn => by
    obtain ⟨hac, hA, hfree, hrest⟩ := h
    have hc := hA.1
    have ih := join_parts hy R r (c + y.length) e hc hrest hn
    obtain ⟨p, ps, hp⟩ := partsFrom_ne x y.length (c + y.length) r
    have ej : Str.join z (partsFrom x y.length a (c :: r)) = strSub x a c ++ z ++ Str.join z (partsFrom x y.length (c + y.length) r) := by
      show Str.join z (strSub x a c :: partsFrom x y.length (c + y.length) r) = _
      rw [hp]; rfl
    rw [ej, Str.cps_append, Array.toList_append, Str.cps_append, Array.toList_append, ih, strSub_toList]
    have h1 := reps_free R (c - a) (x.cps.toList.drop a) (by rw [List.length_drop, len_list]; omega) (fun k hk => by rw [List.drop_drop]; exact not_at hy (hfree _ (by omega) (by omega)))
    rw [h1, List.drop_drop]
    have e2 : a + (c - a) = c := by omega
    rw [e2]
    have h2 : x.cps.toList.drop c = y.cps.toList ++ x.cps.toList.drop (c + y.length) := by
      have h3 := (at_list.mp hA).2
      rw [len_list] at h3
      conv => lhs; rw [← List.take_append_drop y.length (x.cps.toList.drop c)]
      rw [h3, List.drop_drop]
    rw [h2, R.h2, List.append_assoc]
theorem replace_is {x y z : Str} {f : List Nat → List Nat} (hy : 1 ≤ y.length) (R : Reps y.cps.toList z.cps.toList f) : (Txt.replace x y z).cps.toList = f x.cps.toList := by
  obtain ⟨e, hG, hn⟩ := occ_tight x y hy
  have key := join_parts hy R _ 0 e (Nat.zero_le _) hG hn
  rw [List.drop_zero] at key
  unfold Txt.replace
  split
  · rename_i h
    rw [← key]
    have hy0 : (y.length == 0) = false := beq_eq_false_iff_ne.mpr (by omega)
    rw [hy0, Bool.false_and, Bool.or_false, List.isEmpty_iff] at h
    rw [h]
    show _ = (strSub x 0 x.length).cps.toList
    rw [strSub_toList, List.drop_zero, List.take_of_length_le]
    rw [len_list]; omega
  · rw [glued_eq_join, partsBetween_eq]
    exact key

/-- CR LF to LF -/
def crlf : List Nat → List Nat
  | [] => []
  | [c] => [c]
  | c :: d :: r => if c = 13 ∧ d = 10 then 10 :: crlf r else c :: crlf (d :: r)
def cr (l : List Nat) : List Nat := l.map fun c => if c = 13 then 10 else c
theorem crlf_reps : Reps [13, 10] [10] crlf where
  h0 := by rw [crlf]
  h1 := by
    intro c r h
    cases r with
    | nil => simp [crlf]
    | cons d r =>
      rw [crlf, if_neg]
      rintro ⟨rfl, rfl⟩
      exact h rfl
  h2 := by
    intro r
    show crlf (13 :: 10 :: r) = _
    rw [crlf, if_pos ⟨rfl, rfl⟩]; rfl
theorem cr_reps : Reps [13] [10] cr where
  h0 := rfl
  h1 := by
    intro c r h
    have : c ≠ 13 := fun e => h (by rw [e]; rfl)
    simp [cr, this]
  h2 := by intro r; simp [cr]
theorem cr_crlf : ∀ (l : List Nat), cr (crlf l) = mendFrom false l ∧ (l.head? ≠ some 10 → cr (crlf l) = mendFrom true l)
  | [] => by simp [crlf, cr, mendFrom]
  | [c] => by
    refine ⟨?_, fun h => ?_⟩
    · by_cases hc : c = 13 <;> simp [crlf, cr, mendFrom, hc]
    · have h' : c ≠ 10 := by simpa using h
      by_cases hc : c = 13 <;> simp [crlf, cr, mendFrom, hc, h']
  | c :: d :: r => by
    have ih1 := cr_crlf (d :: r)
    have ih2 := cr_crlf r
    by_cases hcd : c = 13 ∧ d = 10
    · obtain ⟨rfl, rfl⟩ := hcd
      have e : cr (crlf (13 :: 10 :: r)) = 10 :: mendFrom false r := by
        rw [crlf, if_pos ⟨rfl, rfl⟩]
        show (if (10 : Nat) = 13 then 10 else 10) :: cr (crlf r) = _
        rw [ih2.1]; rfl
      refine ⟨?_, fun _ => ?_⟩
      · rw [e]; simp [mendFrom]
      · rw [e]; simp [mendFrom]
    · have e : cr (crlf (c :: d :: r)) = (if c = 13 then 10 else c) :: cr (crlf (d :: r)) := by
        rw [crlf, if_neg hcd]; rfl
      rw [e]
      by_cases hc : c = 13
      · have hd : d ≠ 10 := fun e => hcd ⟨hc, e⟩
        have := ih1.2 (by simpa using hd)
        rw [this]
        subst hc
        simp [mendFrom]
      · rw [ih1.1]
        refine ⟨?_, fun h => ?_⟩
        · simp [mendFrom, hc]
        · have h' : c ≠ 10 := by simpa using h
          simp [mendFrom, hc, h']
theorem replaced {x : Str} : (Txt.replace (Txt.replace x (Str.ofString "\r\n") (Str.ofString "\n")) (Str.ofString "\r") (Str.ofString "\n")).cps.toList = mend x.cps.toList := by
  have e1 : (Str.ofString "\r\n").cps.toList = [13, 10] := by decide +kernel
  have e2 : (Str.ofString "\n").cps.toList = [10] := by decide +kernel
  have e3 : (Str.ofString "\r").cps.toList = [13] := by decide +kernel
  rw [replace_is (f := cr) (by decide +kernel) (by rw [e2, e3]; exact cr_reps), replace_is (f := crlf) (by decide +kernel) (by rw [e1, e2]; exact crlf_reps)]
  exact (cr_crlf _).1
theorem crlf_le : ∀ (l : List Nat), (crlf l).length ≤ l.length
  | [] => by simp [crlf]
  | [c] => by simp [crlf]
  | c :: d :: r => by
    rw [crlf]
    split
    · have := crlf_le r; simp only [List.length_cons]; omega
    · have := crlf_le (d :: r); simp only [List.length_cons] at this ⊢; omega
theorem replaced_le {x : Str} : (Txt.replace x (Str.ofString "\r\n") (Str.ofString "\n")).length ≤ x.length := by
  have e1 : (Str.ofString "\r\n").cps.toList = [13, 10] := by decide +kernel
  have e2 : (Str.ofString "\n").cps.toList = [10] := by decide +kernel
  rw [← len_list, replace_is (f := crlf) (by decide +kernel) (by rw [e1, e2]; exact crlf_reps), ← len_list x]
  exact crlf_le _
/-- a cut behind a sign that is no CR, or ahead of one that is no LF, cuts the mended text too -/
theorem mend_append : ∀ (a b : List Nat) (p : Bool), (b.head? ≠ some 10 ∨ (a ≠ [] ∧ a.getLast? ≠ some 13)) → mendFrom p (a ++ b) = mendFrom p a ++ (if a = [] then mendFrom p b else mend b)
  | [], b, p, _ => by simp [mendFrom]
  | c :: a, b, p, h => by
    have free : ∀ q, b.head? ≠ some 10 → mendFrom q b = mend b := by
      intro q hb
      cases b with
      | nil => simp [mendFrom]
      | cons d b =>
        have hd : d ≠ 10 := by simpa using hb
        simp [mendFrom, hd]
    by_cases ha : a = []
    · subst ha
      rw [if_neg (by simp)]
      by_cases hc : c = 13
      · have hb : b.head? ≠ some 10 := by
          rcases h with h | h
          · exact h
          · exact absurd (by simp [hc]) h.2
        simp only [List.cons_append, List.nil_append, mendFrom, if_pos hc]
        rw [free true hb]
      · by_cases hc2 : c = 10 ∧ p = true
        · simp only [List.cons_append, List.nil_append, mendFrom, if_neg hc, if_pos hc2]
        · simp only [List.cons_append, List.nil_append, mendFrom, if_neg hc, if_neg hc2]
    · have h' : b.head? ≠ some 10 ∨ (a ≠ [] ∧ a.getLast? ≠ some 13) := by
        rcases h with h | h
        · exact .inl h
        · refine .inr ⟨ha, ?_⟩
          rw [List.getLast?_cons] at h
          intro e
          rw [e] at h
          exact h.2 rfl
      have ih := fun q => mend_append a b q h'
      rw [if_neg (by simp)]
      simp only [List.cons_append, mendFrom]
      rw [ih true, ih false, if_neg ha]
      split
      · rfl
      · split <;> rfl
theorem mend_cut {a b : List Nat} (h : b.head? ≠ some 10 ∨ (a ≠ [] ∧ a.getLast? ≠ some 13)) : mend (a ++ b) = mend a ++ mend b := by
  show mendFrom false (a ++ b) = _
  rw [mend_append a b false h]
  split <;> rfl
theorem mend_ne {a : List Nat} (h : a ≠ []) : mend a ≠ [] := by
  cases a with
  | nil => exact absurd rfl h
  | cons c a => simp only [mend, mendFrom]; split <;> simp
theorem mend_le : ∀ (l : List Nat) (p : Bool), (mendFrom p l).length ≤ l.length
  | [], _ => by simp [mendFrom]
  | c :: l, p => by
    have h1 := mend_le l true
    have h2 := mend_le l false
    simp only [mendFrom]
    split
    · simp only [List.length_cons]; omega
    · split
      · simp only [List.length_cons]; omega
      · simp only [List.length_cons]; omega
end

section

abbrev tupOf (a : Array Value) : Obj := { cls := .type "tuple", data := .seq a }
structure Fx where
  q : Addr
  dq : Addr
  x : Addr
  d : Addr
  er : Addr
  nl : Addr
  mo : Addr
  k1 : Tok
  k2 : Tok
  k3 : Tok
  k4 : Tok
  k5 : Tok
  k6 : Tok
  k7 : Tok
  k8 : Tok
  k9 : Tok
  k10 : Tok
  j1 : Tok
  j2 : Tok
  raw : Str
  traw : Tok
structure St where
  chunk : Str
  tch : Tok
  size : Int
  tsz : Tok
  off : Int
  tof : Tok
  errs : List Value
  ep : Nat
  pl : Int
  tpl : Tok
  pc : Int
  tpc : Tok
  buf : Value
  place : Int
  tpp : Tok
abbrev ent (w : World) (n : Str) (k : Tok) (v : Value) : DictEntry := ⟨PyData.keyHash w.params n, .str n k, v⟩
abbrev Led (w : World) (f : Fx) (c : St) : List (Addr × Obj) :=
  [(f.q, instObj 138 f.dq),
   (f.dq, dictOf [⟨PyData.keyHash w.params "reportCharacterErrors", .str "reportCharacterErrors" f.k1, .ref f.mo⟩, ⟨PyData.keyHash w.params "newLines", .str "newLines" f.k2, .ref f.nl⟩, ⟨PyData.keyHash w.params "dataStream", .str "dataStream" f.k3, .ref f.x⟩, ⟨PyData.keyHash w.params "chunk", .str "chunk" f.k4, .str c.chunk c.tch⟩, ⟨PyData.keyHash w.params "chunkSize", .str "chunkSize" f.k5, .int c.size c.tsz⟩, ⟨PyData.keyHash w.params "chunkOffset", .str "chunkOffset" f.k6, .int c.off c.tof⟩, ⟨PyData.keyHash w.params "errors", .str "errors" f.k7, .ref f.er⟩, ⟨PyData.keyHash w.params "prevNumLines", .str "prevNumLines" f.k8, .int c.pl c.tpl⟩, ⟨PyData.keyHash w.params "prevNumCols", .str "prevNumCols" f.k9, .int c.pc c.tpc⟩, ⟨PyData.keyHash w.params "_bufferedCharacter", .str "_bufferedCharacter" f.k10, c.buf⟩] 10),
   (f.er, listOf c.errs.toArray c.ep),
   (f.x, instObj 45 f.d),
   (f.d, dictOf [⟨PyData.keyHash w.params "text", .str "text" f.j1, .str f.raw f.traw⟩, ⟨PyData.keyHash w.params "place", .str "place" f.j2, .int c.place c.tpp⟩] 2),
   (f.mo, methodObj (.ref 120) (.ref f.q))]
/-- the order in which the objects were made -/
structure Fx.Ok (f : Fx) : Prop where
  h1 : @LT.lt Nat _ f.dq f.q
  h2 : @LT.lt Nat _ f.q f.mo
  h3 : @LT.lt Nat _ f.mo f.nl
  h4 : @LT.lt Nat _ f.nl f.d
  h5 : @LT.lt Nat _ f.d f.x
  h6 : @LT.lt Nat _ f.x f.er
end
local macro_rules | `(tactic| walk_at "call ref") => `(tactic| k_extra "call ref")
local macro_rules | `(tactic| walk_at "my drop") => `(tactic| first | exact fun _ h => h | exact fun _ h => List.mem_cons_of_mem _ h | exact fun _ h => List.mem_cons_of_mem _ (List.mem_cons_of_mem _ h) | exact fun _ h => List.mem_cons_of_mem _ (List.mem_cons_of_mem _ (List.mem_cons_of_mem _ h)) | (intro p hp; rcases List.mem_cons.mp hp with h | h; exact h ▸ List.mem_cons_self; exact List.mem_cons_of_mem _ (List.mem_cons_of_mem _ h)))
local macro_rules | `(tactic| walk_at "my use") => `(tactic| (
  (case B => first | (k_asm) | ktn_no "my use: the frames below")
  (case F => first | (k_asm) | ktn_no "my use: the frame")
  (case X => first | (k_asm) | ktn_no "my use: the written part")
  (case T => first | (k_asm) | ktn_no "my use: the top's facts")
  (case hk => first | (first | exact rfl | assumption) | ktn_no "my use: the caller is no def")
  (case hd => first | (ktr_room) | ktn_no "my use: the frames' room")
  (case hu => first | (ktr_units) | ktn_no "my use: the C units")))
local macro_rules | `(tactic| walk_at "my fold1") => `(tactic| ((rename News _ _ _ _ => nE); first
  | (have nL : News _ _ _ (Led _ _ ⟨_, _, _, _, _, _, _, _, _, _, _, _, _, _, _⟩ ++ _) := nE)
  | (have nL : News _ _ _ (Led _ _ ⟨_, _, _, _, _, _, _, _, _, _, _, _, .none, _, _⟩ ++ _) := nE)
  | (have nL : News _ _ _ (Led _ _ ⟨_, _, _, _, _, _, _, _, _, _, _, _, .str _ _, _, _⟩ ++ _) := nE)))
local macro_rules | `(tactic| walk_at "my fold") => `(tactic| first
  | walk_at "my fold1"
  | ((rename News _ _ _ _ => nE); (have nE2 := cb_drop nE (fun _ h => List.mem_cons_of_mem _ h)); walk_at "my fold1")
  | ((rename News _ _ _ _ => nE); (have nE1 := cb_drop nE (fun _ h => List.mem_cons_of_mem _ h)); (have nE2 := cb_drop nE1 (fun _ h => List.mem_cons_of_mem _ h)); walk_at "my fold1"))
local macro_rules | `(tactic| size_fits) => `(tactic| ((try simp only [PySem.sizeLine_eq, List.size_toArray, PySem.Str.length_append]); omega))
local macro_rules | `(tactic| walk_at "my same") => `(tactic| first
  | (intro z h1 h2 h3; simp only [if_neg h1]; rfl)
  | (intro z h1 h2 h3; rfl)
  | (intro z h1 h2 h3; (simp only [List.forall_mem_cons, List.not_mem_nil, false_implies, implies_true, and_true, ne_eq] at h2); (simp only [List.contains_cons, List.contains_nil, Bool.or_false, Bool.or_eq_false_iff, beq_eq_false_iff_ne, ne_eq] at h3); (simp [kstB, h1, h2, h3]; done)))
local macro_rules | `(tactic| walk_at "my enter") => `(tactic| k_dflt (refine' code_def ?k1 ?k2 ?k3 ?k4 ?k5 ?kA ?kF ?kK ?k6 ?k7 ?k8 ?k9 ?kB ?_ ?c2 ?c3 ?c4 ?c5; (case kA => exact rfl); (case kF => exact rfl); (case kK => assumption); (case k1 => k_asm); (case k2 => k_asm); (case k3 => k_asm); (case k4 => k_asm); (case k5 => k_asm); (case k6 => k_is); (case k7 => k_is); (case k8 => ktr_room); (case k9 => first | exact BindsTo.of_eq rfl | exact binds_K (by k_in) rfl (by k_is) rfl rfl rfl); (case c5 => decide); (case kB => exact locs rfl); (case c2 => exact rfl); (case c3 => exact rfl); (case c4 => exact rfl); k_whole; intro g' L' h' FG' F' N' B' X' T'; (try dsimp only); (try k_fold)))
local macro_rules | `(tactic| walk_at "my cutsame") => `(tactic| first
  | (intro z h2 h3; rfl)
  | (intro z h2 h3; (simp only [List.forall_mem_cons, List.not_mem_nil, false_implies, implies_true, and_true, ne_eq] at h2); (simp only [List.contains_cons, List.contains_nil, Bool.or_false, Bool.or_eq_false_iff, beq_eq_false_iff_ne, ne_eq] at h3); first | (simp only [if_neg h2]; rfl) | (simp [kstB, h2, h3]; done)))

section
theorem fresh_CInv : True := by
  w_top off
  k_with_none
  trivial
local macro_rules | `(tactic| walk_at "my sub") => `(tactic| (intro p hp; (simp only [List.nil_append, List.cons_append, List.append_nil, List.mem_cons, List.mem_append] at hp ⊢); grind))
local macro_rules | `(tactic| walk_at "my news") => `(tactic| first | with_reducible assumption | assumption | (refine' cb_drop ?cbN ?cbS; (case cbN => assumption); (case cbS => walk_at "my sub")))
def inv (c : Int) : Bool := decide (1 ≤ c ∧ c ≤ 8) || decide (c = 11) || decide (14 ≤ c ∧ c ≤ 31) || decide (127 ≤ c ∧ c ≤ 159) || decide (64976 ≤ c ∧ c ≤ 65007) || decide (Int.fmod c 65536 = 65534 ∨ Int.fmod c 65536 = 65535) || decide (55296 ≤ c ∧ c ≤ 57343)
theorem inv_goal {c : Int} {b : Bool} (h : b = true ↔ ((1 ≤ c ∧ c ≤ 8) ∨ c = 11 ∨ (14 ≤ c ∧ c ≤ 31) ∨ (127 ≤ c ∧ c ≤ 159) ∨ (64976 ≤ c ∧ c ≤ 65007) ∨ (Int.fmod c 65536 = 65534 ∨ Int.fmod c 65536 = 65535) ∨ (55296 ≤ c ∧ c ≤ 57343))) : Value.bool b = Value.bool (inv c) := by
  have : b = inv c := by
    rw [Bool.eq_iff_iff, h]
    simp only [inv, Bool.or_eq_true, decide_eq_true_eq, or_assoc]
  rw [this]
set_option maxRecDepth 100000 in
set_option maxHeartbeats 8000000 in
theorem con_inv (w : World) (c : Int) (t : Tok) : Con w 56 1 8 [] [.int c t] (fun r led' => led' = [] ∧ r = .bool (inv c)) := by
  unfold Con
  k_fill
  intro mean mg mb dp un gd cn cs a ccd cl outer A₀ base h₀ L m own s Q E B F X N T hk hoff hd hu hret
  simp only [List.nil_append] at N
  refine wpAny_call ?_
  k_dflt ktr_enter
  k_steps
  all_goals (refine hret _ [] _ _ (by k_asm) (by walk_at "my news") ⟨rfl, inv_goal ?_⟩)
  all_goals ((simp only [List.any_cons, List.any_nil, Bool.or_false, Bool.or_eq_true, beq_iff_eq, decide_eq_true_eq, decide_eq_false_iff_not, beq_eq_false_iff_ne, ne_eq, Bool.not_eq_true] at *); first | omega | grind)
end

section
section
variable {prog : Program} {w : World} {A : Around} {E : Value → Shared → Prop} {s : Shared} {env : Env} {h₀ : Heap} {x : PySem.Str} {body : List Stmt} {Q : Flow → Shared → Prop}

/-- a turn's end: the new letters, the ledger, what the frame holds -/
def MyEnd {σ : Type} (h₀ : Heap) (L : Addr) (led : σ → List (Addr × Obj)) (ow : List (Addr × Obj)) (ps : σ → List (PySem.Str × Value)) (x : PySem.Str) (stored : List PySem.Str) (m₀ : PySem.Str → Option Value) (P : σ → Prop) (s₁ s₂ : Shared) : Prop :=
  ∃ (c : σ) (h' : Heap) (tk : Nat) (m' : PySem.Str → Option Value), s₂ = { s₁ with heap := h', toks := tk } ∧ Fr h₀ L h' m' ∧ News h₀ L h' (led c ++ ow) ∧ (∀ p ∈ ps c, m' p.1 = some p.2) ∧ (∀ z, z ≠ x → (∀ p ∈ ps c, z ≠ p.1) → stored.contains z = false → m' z = m₀ z) ∧ P c
def MyPost {σ : Type} (h₀ : Heap) (L : Addr) (led : σ → List (Addr × Obj)) (ow : List (Addr × Obj)) (ps : σ → List (PySem.Str × Value)) (x : PySem.Str) (stored : List PySem.Str) (m₀ : PySem.Str → Option Value) (P : σ → Prop) (s₁ : Shared) (Q : Flow → Shared → Prop) (f : Flow) (s₂ : Shared) : Prop :=
  match f with
  | .ret v => Q (.ret v) s₂
  | .brk => Q .next s₂
  | _ => MyEnd h₀ L led ow ps x stored m₀ P s₁ s₂

theorem my_end {σ : Type} {L : Addr} {led : σ → List (Addr × Obj)} {ow : List (Addr × Obj)} {ps : σ → List (PySem.Str × Value)} {stored : List PySem.Str} {m₀ m' : PySem.Str → Option Value} {P : σ → Prop} {s₁ : Shared} {h' : Heap} {tk : Nat} (c : σ)
    (F : Fr h₀ L h' m') (N : News h₀ L h' (led c ++ ow)) (hk : ∀ p ∈ ps c, m' p.1 = some p.2) (hr : ∀ z, z ≠ x → (∀ p ∈ ps c, z ≠ p.1) → stored.contains z = false → m' z = m₀ z) (hp : P c) :
    MyEnd h₀ L led ow ps x stored m₀ P s₁ { s₁ with heap := h', toks := tk } := ⟨c, h', tk, m', rfl, F, N, hk, hr, hp⟩

theorem own_of_led {h h' : Heap} {L : Addr} {a b : List (Addr × Obj)} (N : News h L h' a) (hs : ∀ p ∈ b, p ∈ a) : News h L h' b := fun p hp => N p (hs p hp)

theorem app_split {α : Type} {a b c d : List α} (h : a ++ b = c ++ d) (hl : a.length = c.length) : a = c ∧ b = d := List.append_inj h hl

theorem my_loop {σ : Type} {I : Addr} {fp wr : List Addr} {n : Nat} {V : Nat → Value → Prop} {St : Nat → Heap → Prop} {m₀ : PySem.Str → Option Value} (led : σ → List (Addr × Obj)) (own : List (Addr × Obj)) (ps : σ → List (PySem.Str × Value)) (stored : List PySem.Str) (P : Nat → σ → Prop) (c₀ : σ)
    (W : Walks prog w A I fp wr n V St) (hLf : env.locals ∉ fp) (hwr : ∀ b ∈ wr, h₀.get? b = none) (hnw : ∀ p ∈ led c₀ ++ own, p.1 ∉ wr) (hfp : ∀ q ∈ led c₀ ++ own, q.1 ∉ fp) (hst : St 0 s.heap)
    (hadr : ∀ c, (led c).map (·.1) = (led c₀).map (·.1))
    (F : Fr h₀ env.locals s.heap m₀) (N : News h₀ env.locals s.heap (led c₀ ++ own)) (hoff : OwnOff own ((led c₀).map (·.1))) (hk : ∀ p ∈ ps c₀, m₀ p.1 = some p.2) (hp : P 0 c₀)
    (turn : ∀ (c : σ) (i : Nat) (v : Value) (u : PySem.Str → Option Value) h tk ow, i < n → V i v → OwnOff ow ((led c₀).map (·.1)) → (∀ p ∈ own, p ∈ ow) → P i c →
      Fr h₀ env.locals h (fun y => if y = x then some v else kstB (fun z => if stored.contains z then u z else m₀ z) (ps c) y) → News h₀ env.locals h (led c ++ ow) →
      wpAny (model prog w) A (execs body env) (MyPost h₀ env.locals led ow ps x stored m₀ (P (i + 1)) { s with heap := h, toks := tk } Q) E { s with heap := h, toks := tk })
    (done : ∀ (c : σ) (u : PySem.Str → Option Value) h tk, P n c → Fr h₀ env.locals h (fun y => if y = x then u y else kstB (fun z => if stored.contains z then u z else m₀ z) (ps c) y) → News h₀ env.locals h (led c ++ own) → Q .next { s with heap := h, toks := tk }) :
    LoopAtV prog w A h₀ env x body Q E (.ref I) s := by
  refine loop_invN (fun i m nx => ∃ c : σ, nx = led c ++ own ∧ (∀ p ∈ ps c, m p.1 = some p.2) ∧ (∀ z, z ≠ x → (∀ p ∈ ps c, z ≠ p.1) → stored.contains z = false → m z = m₀ z) ∧ P i c) W hLf hwr hnw hfp hst F N ⟨c₀, rfl, hk, fun _ _ _ _ => rfl, hp⟩ ?_ ?_
  · rintro i v m₁ nx h tk own' hi hv _ hoff' ⟨c, rfl, h1, h2, hp'⟩ F₁ N₁
    have hoff2 : OwnOff (own ++ own') ((led c₀).map (·.1)) := by
      intro p hp b hb
      rcases List.mem_append.mp hp with hp | hp
      · exact hoff p hp b hb
      · exact hoff' p hp b (by rw [List.map_append]; exact List.mem_append.mpr (.inl hb))
    rw [List.append_assoc] at N₁
    refine wpAny_mono (turn c i v m₁ h tk (own ++ own') hi hv hoff2 (fun p hp => List.mem_append.mpr (.inl hp)) hp' (kst_fr h1 h2 F₁) N₁) (fun f s₂ p => ?_) fun _ _ x => x
    have up : MyEnd h₀ env.locals led (own ++ own') ps x stored m₀ (P (i + 1)) { s with heap := h, toks := tk } s₂ →
        InvEndN h₀ env.locals (fun m nx => ∃ c : σ, nx = led c ++ own ∧ (∀ p ∈ ps c, m p.1 = some p.2) ∧ (∀ z, z ≠ x → (∀ p ∈ ps c, z ≠ p.1) → stored.contains z = false → m z = m₀ z) ∧ P (i + 1) c) own' ((led c₀ ++ own).map (·.1)) { s with heap := h, toks := tk } s₂ := by
      rintro ⟨c', h', tk', m', rfl, F', N', hk', hr', hP'⟩
      refine ⟨h', tk', m', led c' ++ (own ++ own'), led c' ++ own, rfl, F', N', fun p hp => ?_, fun p hp => ?_, ?_, c', rfl, hk', hr', hP'⟩
      · rw [← List.append_assoc]; exact List.mem_append.mpr (.inl hp)
      · rw [← List.append_assoc]; exact List.mem_append.mpr (.inr hp)
      · rw [List.map_append, List.map_append, hadr c']
    cases f with
    | ret v => exact p
    | brk => exact p
    | next => exact up p
    | cont => exact up p
  · rintro m₁ nx h tk ⟨c, rfl, h1, h2, hp'⟩ F₁ N₁
    exact done c m₁ h tk hp' (kst_frOut h1 h2 F₁) N₁

/-- a for over a text's signs -/
theorem my_text {σ : Type} {xt : PySem.Str} {tx : Tok} {m₀ : PySem.Str → Option Value} (led : σ → List (Addr × Obj)) (own : List (Addr × Obj)) (ps : σ → List (PySem.Str × Value)) (stored : List PySem.Str) (P : List Nat → σ → Prop) (c₀ : σ)
    (hh : A.handled = none) (hadr : ∀ c, (led c).map (·.1) = (led c₀).map (·.1))
    (F : Fr h₀ env.locals s.heap m₀) (N : News h₀ env.locals s.heap (led c₀ ++ own)) (hoff : OwnOff own ((led c₀).map (·.1))) (hk : ∀ p ∈ ps c₀, m₀ p.1 = some p.2) (hp : P [] c₀)
    (turn : ∀ (c : σ) (pre : List Nat) (n : Nat) (post : List Nat) (t : Tok) (u : PySem.Str → Option Value) h tk ow, xt.cps.toList = pre ++ n :: post → OwnOff ow ((led c₀).map (·.1)) → (∀ p ∈ own, p ∈ ow) → P pre c →
      Fr h₀ env.locals h (fun y => if y = x then some (.str ⟨#[n]⟩ t) else kstB (fun z => if stored.contains z then u z else m₀ z) (ps c) y) → News h₀ env.locals h (led c ++ ow) →
      wpAny (model prog w) A (execs body env) (MyPost h₀ env.locals led ow ps x stored m₀ (P (pre ++ [n])) { s with heap := h, toks := tk } Q) E { s with heap := h, toks := tk })
    (done : ∀ (c : σ) (u : PySem.Str → Option Value) h tk, P xt.cps.toList c → Fr h₀ env.locals h (fun y => if y = x then u y else kstB (fun z => if stored.contains z then u z else m₀ z) (ps c) y) → News h₀ env.locals h (led c ++ own) → Q .next { s with heap := h, toks := tk }) :
    wpAny (model prog w) A (pyIter (.str xt tx)) (fun it s₂ => LoopAtV prog w A h₀ env x body Q E it s₂) E s := by
  refine wpAny_pyIter_str fun o St hW hst => ?_
  have W := hW A hh
  have below : ∀ p ∈ led c₀ ++ own, p.1 ∉ [s.heap.objs.size] := fun p hp hI => absurd (Heap.lt_size (N p hp).1) ((List.mem_singleton.mp hI) ▸ Nat.lt_irrefl _)
  refine my_loop led own ps stored (fun i c => P (xt.cps.toList.take i) c) c₀ W ?_ ?_ below below hst hadr (F.push _) (fun p hp => ⟨Heap.get?_push_of_some _ (N p hp).1, (N p hp).2⟩) hoff hk (by simpa using hp) ?_ ?_
  · intro hm
    exact absurd F.ns.lt ((List.mem_singleton.mp hm) ▸ Nat.lt_irrefl _)
  · intro b' hb
    rw [List.mem_singleton.mp hb]
    exact next_is_new F
  · rintro c i v u h tk ow hi ⟨n, t, hn, rfl⟩ hoff' hsub hP F₁ N₁
    have hn' : xt.cps.toList[i]? = some n := by rw [Array.getElem?_toList]; exact hn
    have hs : xt.cps.toList.take (i + 1) = xt.cps.toList.take i ++ [n] := by simp [List.take_add_one, hn']
    have e : xt.cps.toList = xt.cps.toList.take i ++ n :: xt.cps.toList.drop (i + 1) := by
      have ht := List.take_append_drop (i + 1) xt.cps.toList
      rw [hs, List.append_assoc] at ht
      exact ht.symm
    rw [hs]
    exact turn c _ n _ t u h tk ow e hoff' hsub hP F₁ N₁
  · rintro c u h tk hP F₁ N₁
    refine done c u h tk ?_ F₁ N₁
    have hl : xt.cps.size = xt.cps.toList.length := by simp
    rw [hl, List.take_length] at hP
    exact hP
end
section
variable {M : Model} {A : Around} {E : Value → Shared → Prop} {s : Shared} {env : Env} {h₀ : Heap} {L : Addr} {Q : Flow → Shared → Prop}
theorem execs_append : ∀ (pre post : List Stmt), execs (pre ++ post) env = (do match ← execs pre env with | .next => execs post env | f => pure f)
  | [], post => rfl
  | st :: pre, post => by
    show execs (st :: (pre ++ post)) env = _
    rw [execs_cons, execs_cons, bind_assoc]
    congr 1
    funext f
    cases f with
    | next => exact execs_append pre post
    | _ => rfl
theorem my_seq {pre post : List Stmt} (h : wpAny M A (execs pre env) (fun f s' => match f with | .next => wpAny M A (execs post env) Q E s' | f => Q f s') E s) : wpAny M A (execs (pre ++ post) env) Q E s := by
  rw [execs_append]
  refine wpAny_bind (wpAny_mono h (fun f s' h' => ?_) fun _ _ x => x)
  cases f with
  | next => exact h'
  | _ => exact wpAny_pure h'

/-- between two halves of a body: what stands there, by the letters c -/
def CutEnd {σ : Type} (h₀ : Heap) (L : Addr) (led : σ → List (Addr × Obj)) (own : List (Addr × Obj)) (ps : σ → List (PySem.Str × Value)) (stored : List PySem.Str) (m₀ : PySem.Str → Option Value) (P : σ → Prop) (s₁ s₂ : Shared) : Prop :=
  ∃ (c : σ) (h' : Heap) (tk : Nat) (m' : PySem.Str → Option Value), s₂ = { s₁ with heap := h', toks := tk } ∧ Fr h₀ L h' m' ∧ News h₀ L h' (led c ++ own) ∧ (∀ p ∈ ps c, m' p.1 = some p.2) ∧ (∀ z, (∀ p ∈ ps c, z ≠ p.1) → stored.contains z = false → m' z = m₀ z) ∧ P c
def CutPost {σ : Type} (h₀ : Heap) (L : Addr) (led : σ → List (Addr × Obj)) (own : List (Addr × Obj)) (ps : σ → List (PySem.Str × Value)) (stored : List PySem.Str) (m₀ : PySem.Str → Option Value) (P : σ → Prop) (s₁ : Shared) (Q : Flow → Shared → Prop) (f : Flow) (s₂ : Shared) : Prop :=
  match f with
  | .next => CutEnd h₀ L led own ps stored m₀ P s₁ s₂
  | f => Q f s₂
theorem cut_end {σ : Type} {led : σ → List (Addr × Obj)} {own : List (Addr × Obj)} {ps : σ → List (PySem.Str × Value)} {stored : List PySem.Str} {m₀ m' : PySem.Str → Option Value} {P : σ → Prop} {s₁ : Shared} {h' : Heap} {tk : Nat} (c : σ)
    (F : Fr h₀ L h' m') (N : News h₀ L h' (led c ++ own)) (hk : ∀ p ∈ ps c, m' p.1 = some p.2) (hr : ∀ z, (∀ p ∈ ps c, z ≠ p.1) → stored.contains z = false → m' z = m₀ z) (hp : P c) :
    CutEnd h₀ L led own ps stored m₀ P s₁ { s₁ with heap := h', toks := tk } := ⟨c, h', tk, m', rfl, F, N, hk, hr, hp⟩
theorem my_cut {σ : Type} {pre post : List Stmt} {m₀ : PySem.Str → Option Value} (led : σ → List (Addr × Obj)) (own : List (Addr × Obj)) (ps : σ → List (PySem.Str × Value)) (stored : List PySem.Str) (P : σ → Prop) (_F : Fr h₀ L s.heap m₀)
    (first : wpAny M A (execs pre env) (CutPost h₀ L led own ps stored m₀ P s Q) E s)
    (rest : ∀ (c : σ) (u : PySem.Str → Option Value) h tk, s.toks ≤ tk → P c → Fr h₀ L h (kstB (fun z => if stored.contains z then u z else m₀ z) (ps c)) → News h₀ L h (led c ++ own) → wpAny M A (execs post env) Q E { s with heap := h, toks := tk }) :
    wpAny M A (execs (pre ++ post) env) Q E s := by
  refine my_seq (wpAny_mono (wpAny_toks first) (fun f s' h' => ?_) fun _ _ x => x.1)
  obtain ⟨h', hle⟩ := h'
  cases f with
  | next =>
    obtain ⟨c, h', tk, m', rfl, F, N, hk, hr, hp⟩ := h'
    exact rest c m' h' tk hle hp (ksw_fr hk hr F) N
  | _ => exact h'
theorem my_cutk {σ : Type} (k : Nat) {body : List Stmt} {m₀ : PySem.Str → Option Value} (led : σ → List (Addr × Obj)) (own : List (Addr × Obj)) (ps : σ → List (PySem.Str × Value)) (stored : List PySem.Str) (P : σ → Prop) (F : Fr h₀ L s.heap m₀)
    (first : wpAny M A (execs (body.take k) env) (CutPost h₀ L led own ps stored m₀ P s Q) E s)
    (rest : ∀ (c : σ) (u : PySem.Str → Option Value) h tk, s.toks ≤ tk → P c → Fr h₀ L h (kstB (fun z => if stored.contains z then u z else m₀ z) (ps c)) → News h₀ L h (led c ++ own) → wpAny M A (execs (body.drop k) env) Q E { s with heap := h, toks := tk }) :
    wpAny M A (execs body env) Q E s := by
  have e := List.take_append_drop k body
  rw [← e]
  exact my_cut led own ps stored P F first rest
end
end

section
theorem fresh_CPos : True := by
  w_top off
  k_with_none
  trivial

local macro_rules | `(tactic| walk_at "call builtin:str.count") => `(tactic| (k_here; refine' call_count4 ?a ?b ?c ?_; (case a => decide +kernel); (case b => omega); (case c => omega); intro t' k'))
set_option maxRecDepth 100000 in
set_option maxHeartbeats 8000000 in
theorem con__position (w : World) (f : Fx) (c : St) (o : Int) (t : Tok) (h0 : 0 ≤ o) (h1 : o ≤ c.chunk.length) : Con w 91 1 8 (Led w f c) [.ref f.q, .int o t]
    (fun r led' => ∃ a ta tb, r = .ref a ∧ (@LT.lt Nat _ f.dq a ∧ @LT.lt Nat _ f.er a ∧ @LT.lt Nat _ f.d a) ∧ led' = (a, tupOf #[.int (c.pl + ((c.chunk.cps.toList.take o.toNat).count 10 : Nat)) ta, .int (colFrom c.pc (c.chunk.cps.toList.take o.toNat)) tb]) :: Led w f c) := by
  unfold Con
  k_fill
  intro mean mg mb dp un gd cn cs a ccd cl outer A₀ base h₀ L m own s Q E B F X N T hk hoff hd hu hret
  simp only [List.cons_append, List.nil_append] at N
  k_with_none
  k_with "call builtin:str.rfind" => (refine' call_rfind4 c.pc ?a ?b ?c ?_; (case a => decide +kernel); (case b => omega); (case c => omega); intro z' t' k' hz')
  refine wpAny_call ?_
  k_dflt ktr_enter
  k_steps
  · (rename News _ _ _ _ => nE)
    have e : c.pc + o = colFrom c.pc (c.chunk.cps.toList.take o.toNat) := by omega
    rw [e] at nE
    exact hret _ ((_, _) :: Led w f c) _ _ (by k_asm) nE ⟨_, _, _, rfl, ⟨by omega, by omega, by omega⟩, rfl⟩
  · (rename News _ _ _ _ => nE)
    have e : o - (z' + 1) = colFrom c.pc (c.chunk.cps.toList.take o.toNat) := by omega
    rw [e] at nE
    exact hret _ ((_, _) :: Led w f c) _ _ (by k_asm) nE ⟨_, _, _, rfl, ⟨by omega, by omega, by omega⟩, rfl⟩
end

section
theorem fresh_CPos2 : True := by
  w_top off
  k_with_none
  trivial





set_option maxRecDepth 100000 in
set_option maxHeartbeats 8000000 in
theorem con_position (w : World) (f : Fx) (c : St) (h0 : 0 ≤ c.off) (h1 : c.off ≤ c.chunk.length) : Con w 98 2 16 (Led w f c) [.ref f.q]
    (fun r led' => ∃ a ta tb, r = .ref a ∧ (@LT.lt Nat _ f.dq a ∧ @LT.lt Nat _ f.er a ∧ @LT.lt Nat _ f.d a) ∧ led' = (a, tupOf #[.int (c.pl + ((c.chunk.cps.toList.take c.off.toNat).count 10 : Nat) + 1) ta, .int (colFrom c.pc (c.chunk.cps.toList.take c.off.toNat)) tb]) :: Led w f c) := by
  unfold Con
  k_fill
  intro mean mg mb dp un gd cn cs a ccd cl outer A₀ base h₀ L m own s Q E B F X N T hk hoff hd hu hret
  simp only [List.cons_append, List.nil_append] at N
  k_with_none
  k_with "call ref" => k_dflt (walk_at "my fold"; (rename News _ _ _ (Led _ _ _ ++ _) => nL); (refine' con_useN nL (con__position w f _ c.off _ h0 h1) ?B ?F ?X ?T ?hk hoff ?hd ?hu ?_); walk_at "my use"; (intro r' led' h' tk' hP' F' N'; obtain ⟨a', ta', tb', hr', ha', hl'⟩ := hP'; subst hr'; subst hl'; simp only [List.cons_append, List.nil_append] at N'; (try dsimp only)))
  refine wpAny_call ?_
  k_dflt ktr_enter
  k_steps
  (rename News _ _ _ _ => nE)
  exact hret _ ((_, _) :: Led w f c) _ _ (by k_asm) (cb_drop nE (by walk_at "my drop")) ⟨_, _, _, rfl, ⟨by omega, by omega, by omega⟩, rfl⟩
end

section
local macro_rules | `(tactic| walk_at "my pad 0") => `(tactic| skip)
theorem fresh_CRead : True := by
  w_top off
  k_with_none
  trivial
set_option maxRecDepth 100000 in
set_option maxHeartbeats 8000000 in
theorem con_read (w : World) (f : Fx) (hf : f.Ok) (c : St) (n : Int) (t : Tok) (h0 : 0 ≤ c.place) (h1 : c.place ≤ f.raw.length) (hn : 0 ≤ n) (hb : f.raw.length ≤ 40) (hn2 : n ≤ 10240) : Con w 42 1 8 (Led w f c) [.ref f.x, .int n t]
    (fun r led' => ∃ (x : Str) (tx tp : Tok), x.cps.toList = (f.raw.cps.toList.drop c.place.toNat).take n.toNat ∧ r = .str x tx ∧ led' = Led w f { c with place := c.place + x.length, tpp := tp }) := by
  unfold Con
  k_fill
  intro mean mg mb dp un gd cn cs a ccd cl outer A₀ base h₀ L m own s Q E B F X N T hk hoff hd hu hret
  obtain ⟨hf1, hf2, hf3, hf4, hf5, hf6⟩ := hf
  simp only [List.cons_append, List.nil_append] at N
  simp only [List.map_cons, List.map_nil] at hoff
  k_with_none
  refine wpAny_call ?_
  k_dflt ktr_enter
  k_steps
  (rename News _ _ _ _ => nE)
  exact hret _ (Led w f { c with place := c.place + (Txt.slice f.raw (some c.place) (some (c.place + n))).length, tpp := _ }) _ _ (by k_asm) nE ⟨_, _, _, slice_part h0 h1 hn, rfl, rfl⟩
end

section
theorem fresh_CErr : True := by
  w_top off
  k_with_none
  trivial
/-- the errors' list's values: so many of the one word -/
def ErrsAre (vs : List Value) (n : Nat) : Prop := vs.length = n ∧ ∀ v ∈ vs, ∃ t, v = .str "invalid-codepoint" t
def bad (l : List Nat) : Nat := (l.filter fun (c : Nat) => inv (c : Int)).length
theorem bad_append (a b : List Nat) : bad (a ++ b) = bad a + bad b := by simp [bad]
theorem bad_le (a : List Nat) : bad a ≤ a.length := List.length_filter_le _ _
theorem bad_one {n : Nat} {b : Bool} (h : inv (n : Int) = b) : bad [n] = if b then 1 else 0 := by
  unfold bad
  simp only [List.filter_cons, List.filter_nil, h]
  cases b <;> rfl
set_option maxRecDepth 100000 in
set_option maxHeartbeats 8000000 in
theorem con_errs_c (w : World) (f : Fx) (hf : f.Ok) (c : St) (data : Str) (t : Tok) (k : Nat) (hk₀ : ErrsAre c.errs k) (hb : data.length ≤ 80) (hk40 : k ≤ 40) : ConC w 120 2 16 (Led w f c) [.ref f.q, .str data t]
    (fun r led' => r = .none ∧ ∃ (es : List Value) (ep' : Nat), ErrsAre es (k + bad data.cps.toList) ∧ led' = Led w f { c with errs := es, ep := ep' }) := by
  unfold ConC
  k_fill
  intro mean mg mb dp un gd cn cs a ccd cl outer A₀ base h₀ L m own s Q E B F X N T hk hoff hd hu hret
  obtain ⟨hf1, hf2, hf3, hf4, hf5, hf6⟩ := hf
  simp only [List.cons_append, List.nil_append] at N
  k_with_none
  k_with "pyIter str" => fail "by hand"
  k_dflt ktr_enter
  k_steps
  (rename Fr _ _ _ _ => lF')
  (rename News _ _ _ _ => lN')
  with_unfolding_all refine my_text (σ := List Value × Nat) (fun z => Led w f { c with errs := z.1, ep := z.2 }) own (fun _ => []) [] (fun pre z => ErrsAre z.1 (k + bad pre)) (c.errs, c.ep) (by rfl) (fun _ => rfl) lF' lN' hoff (fun _ hp => nomatch hp) hk₀ ?_ ?_
  all_goals clear lF' lN'
  · rintro ⟨es, ep'⟩ pre n post t u h tk ow hx hoff' hsub hP F₁ N₁
    dsimp only at hP
    simp only [List.map_cons, List.map_nil] at hoff'
    simp only [List.cons_append, List.nil_append] at N₁
    have hlen : es.length ≤ 400 := by
      have h1 := hP.1
      have h2 := bad_le pre
      have h3 : data.cps.toList.length = data.length := by simp [Str.length]
      have h4 := congrArg List.length hx
      simp only [List.length_append, List.length_cons] at h4
      omega
    k_with "call ref" => k_dflt ((refine' con_use0 (con_inv w _ _) ?B ?F ?X ?N ?T ?hk ?hd ?hu ?_); walk_at "my use"; (case N => k_asm); (intro r' led' h' tk' hP' F' N'; obtain ⟨hl', hr'⟩ := hP'; subst hl'; subst hr'; simp only [List.cons_append, List.nil_append] at N'; (try dsimp only)))
    all_goals (try k_fold)
    k_steps
    · dsimp only [MyPost]
      (rename News _ _ _ _ => nE)
      simp only [List.push_toArray] at nE
      refine my_end (es ++ [_], _) (by k_asm) nE (fun _ hp => nomatch hp) (by walk_at "my same") ?_
      · have hb1 := bad_one (by assumption)
        refine ⟨?_, ?_⟩
        · have h1 := hP.1
          rw [bad_append, hb1, List.length_append, h1]; simp; omega
        · intro v hv
          rcases List.mem_append.mp hv with hv | hv
          · exact hP.2 v hv
          · exact ⟨_, List.mem_singleton.mp hv⟩
    · dsimp only [MyPost]
      (rename News _ _ _ _ => nE)
      refine my_end (es, ep') (by k_asm) nE (fun _ hp => nomatch hp) (by walk_at "my same") ?_
      · have hb1 := bad_one (by assumption)
        refine ⟨?_, hP.2⟩
        have h1 := hP.1
        rw [bad_append, hb1, h1]; simp
  · rintro ⟨es, ep'⟩ u h tk hP F₁ N₁
    dsimp only at hP
    all_goals (try k_fold)
    k_steps
    (rename News _ _ _ _ => nE)
    exact hret _ (Led w f { c with errs := es, ep := ep' }) _ _ (by k_asm) nE ⟨rfl, es, ep', hP, rfl⟩
theorem con_errs (w : World) (f : Fx) (hf : f.Ok) (c : St) (data : Str) (t : Tok) (k : Nat) (hk₀ : ErrsAre c.errs k) (hb : data.length ≤ 80) (hk40 : k ≤ 40) : Con w 120 2 16 (Led w f c) [.ref f.q, .str data t]
    (fun r led' => r = .none ∧ ∃ (es : List Value) (ep' : Nat), ErrsAre es (k + bad data.cps.toList) ∧ led' = Led w f { c with errs := es, ep := ep' }) := (con_errs_c w f hf c data t k hk₀ hb hk40).con
end

section
def goodSign (c : Nat) : Prop := c ∈ [97, 98, 13, 10, 1, 32, 64976, 233, 0, 128512]
structure Inv (f : Fx) (c : St) (pre : List Nat) : Prop where
  hbuf : c.buf = .none ∨ ∃ t, c.buf = .str (Str.ofString "\r") t
  hp0 : 0 ≤ c.place
  hp1 : c.place ≤ f.raw.length
  hsz : c.size = c.chunk.length
  ho0 : 0 ≤ c.off
  ho1 : c.off ≤ c.size
  hpl : c.pl = (pre.count 10 : Nat)
  hpc : c.pc = colFrom 0 pre
  hT : mend f.raw.cps.toList = pre ++ c.chunk.cps.toList ++ mend (bufl c.buf ++ f.raw.cps.toList.drop c.place.toNat)
  herr : ErrsAre c.errs (bad (f.raw.cps.toList.take c.place.toNat))
theorem part_len {raw x : Str} {p n : Int} (h : x.cps.toList = (raw.cps.toList.drop p.toNat).take n.toNat) (hl : raw.length ≤ 40) : x.length ≤ 40 := by
  have := congrArg List.length h
  rw [len_list, List.length_take, List.length_drop, len_list] at this
  omega
structure GoodRaw (f : Fx) : Prop where
  hlen : f.raw.length ≤ 40
  hsign : ∀ c ∈ f.raw.cps.toList, goodSign c
section
variable {prog : Program} {w : World} {A : Around} {E : Value → Shared → Prop} {s : Shared} {t L : Addr} {h₀ : Heap} {m : Str → Option Value} {news : List (Addr × Obj)} {f self : Value} {Q : Bool → Shared → Prop}
theorem meth_noBool : typeLookup (.type "method") "__bool__" = pure none := by rw [typeLookup_type, builtinLookup_eq_fast]; kernel_rfl
theorem meth_noLen : typeLookup (.type "method") "__len__" = pure none := by rw [typeLookup_type, builtinLookup_eq_fast]; kernel_rfl
theorem truthy_meth (N : News h₀ L s.heap news) (hm : (t, methodObj f self) ∈ news) (h : Q true s) : wpAny (model prog w) A (truthy (.ref t)) Q E s := by
  have hT : s.TypeIs (.ref t) "method" := ⟨_, (N _ hm).1, rfl⟩
  unfold truthy
  first
    | refine wpAny_bind (wpAny_callSpecial?_none (name := Str.ofString "__bool__") hT meth_noBool ?_)
    | refine wpAny_bind (wpAny_pure (wpAny_bind (wpAny_callSpecial?_none (name := Str.ofString "__bool__") hT meth_noBool ?_)))
  first
    | refine wpAny_bind (wpAny_specialOf (name := Str.ofString "__len__") hT meth_noLen ?_)
    | refine wpAny_bind (wpAny_pure (wpAny_bind (wpAny_specialOf (name := Str.ofString "__len__") hT meth_noLen ?_)))
  exact wpAny_pure h
end
structure SA where
  D : Str
  tD : Tok
  tch : Tok
  tsz : Tok
  tof : Tok
  tpl : Tok
  tpc : Tok
  place : Int
  tpp : Tok
structure PA (f : Fx) (c : St) (z : SA) : Prop where
  h0 : 0 ≤ z.place
  h1 : z.place ≤ f.raw.length
  hl : 1 ≤ z.D.length
  hu : z.D.length ≤ 80
  hs : z.D.cps.toList ++ f.raw.cps.toList.drop z.place.toNat = bufl c.buf ++ f.raw.cps.toList.drop c.place.toNat
  ht : f.raw.cps.toList.drop z.place.toNat = [] ∨ 2 ≤ z.D.length
  hb : bad (f.raw.cps.toList.take z.place.toNat) = bad (f.raw.cps.toList.take c.place.toNat) + bad z.D.cps.toList
abbrev stA (c : St) (z : SA) : St := { c with chunk := Str.ofString "", tch := z.tch, size := 0, tsz := z.tsz, off := 0, tof := z.tof, pl := c.pl + ((c.chunk.cps.toList.take c.size.toNat).count 10 : Nat), tpl := z.tpl, pc := colFrom c.pc (c.chunk.cps.toList.take c.size.toNat), tpc := z.tpc, buf := .none, place := z.place, tpp := z.tpp }
theorem pa_none {f : Fx} {c : St} {x : Str} {n : Int} {tD tch tsz tof tpl tpc tpp : Tok} (hx : x.cps.toList = (f.raw.cps.toList.drop c.place.toNat).take n.toNat) (h0 : 0 ≤ c.place) (h1 : c.place ≤ f.raw.length) (hn : 2 ≤ n) (hne : x.length ≠ 0) (hlen : f.raw.length ≤ 40)
    (hb : c.buf = .none) : PA f c ⟨x, tD, tch, tsz, tof, tpl, tpc, c.place + x.length, tpp⟩ := by
  have hrl := len_list f.raw
  have hxl := len_list x
  obtain ⟨a1, a2, a3, a4⟩ := part_facts hx (by omega)
  have e : (c.place + (x.length : Int)).toNat = c.place.toNat + x.cps.toList.length := by omega
  refine ⟨by dsimp only; omega, by dsimp only; omega, by dsimp only; omega, by dsimp only; omega, ?_, ?_, ?_⟩
  · dsimp only; rw [e, a2, hb]; rfl
  · dsimp only; rw [e]
    by_cases h2 : 2 ≤ x.length
    · exact .inr h2
    · exact .inl (a3 (by omega))
  · dsimp only; rw [e, a4, bad_append]
theorem pa_str {f : Fx} {c : St} {x : Str} {n : Int} {tb tD tch tsz tof tpl tpc tpp : Tok} (hx : x.cps.toList = (f.raw.cps.toList.drop c.place.toNat).take n.toNat) (h0 : 0 ≤ c.place) (h1 : c.place ≤ f.raw.length) (hn : 2 ≤ n) (hlen : f.raw.length ≤ 40)
    (hb : c.buf = .str (Str.ofString "\r") tb) : PA f c ⟨Str.ofString "\r" ++ x, tD, tch, tsz, tof, tpl, tpc, c.place + x.length, tpp⟩ := by
  have hrl := len_list f.raw
  have hxl := len_list x
  obtain ⟨a1, a2, a3, a4⟩ := part_facts hx (by omega)
  have e : (c.place + (x.length : Int)).toNat = c.place.toNat + x.cps.toList.length := by omega
  have hcr : Str.ofString "\r" = ⟨#[13]⟩ := by decide +kernel
  rw [hcr] at hb ⊢
  have hD : ((⟨#[13]⟩ : Str) ++ x).cps.toList = 13 :: x.cps.toList := by rw [Str.cps_append, Array.toList_append]; rfl
  have hDl : ((⟨#[13]⟩ : Str) ++ x).length = 1 + x.length := by rw [← len_list, hD, List.length_cons, hxl]; omega
  refine ⟨by dsimp only; omega, by dsimp only; omega, by dsimp only; omega, by dsimp only; omega, ?_, ?_, ?_⟩
  · dsimp only; rw [e, hD, List.cons_append, a2, hb]; rfl
  · dsimp only; rw [e, hDl]
    by_cases h2 : 1 ≤ x.length
    · exact .inr (by omega)
    · exact .inl (a3 (by omega))
  · dsimp only; rw [e, a4, bad_append, hD]
    have : bad (13 :: x.cps.toList) = bad x.cps.toList := by
      show bad ([13] ++ _) = _
      rw [bad_append, bad_one (b := false) (by decide)]; simp
    rw [this]
theorem last_item {D : Str} (h : 1 ≤ D.length) : ∃ z : Nat, D.cps.toList = D.cps.toList.take (D.length - 1) ++ [z] ∧ Txt.item D (-1) = ⟨#[z]⟩ := by
  have hl := len_list D
  have hlt : D.length - 1 < D.cps.toList.length := by omega
  refine ⟨D.cps.toList[D.length - 1], ?_, ?_⟩
  · conv => lhs; rw [← List.take_append_drop (D.length - 1) D.cps.toList]
    rw [List.drop_eq_getElem_cons hlt, List.drop_eq_nil_of_le (by omega)]
  · unfold Txt.item Txt.charAt
    rw [StrLaws.seqIndex_neg (by omega) (by omega)]
    have e : (-1 + (D.length : Int)).toNat = D.length - 1 := by omega
    rw [e]
    have hv : D.cps[D.length - 1]? = some D.cps.toList[D.length - 1] := by
      rw [← Array.getElem?_toList]
      exact List.getElem?_eq_getElem hlt
    simp only [Option.bind_some, hv, Option.getD_some]
theorem good_range {z : Nat} (h : goodSign z) : z < 55296 ∨ 56319 < z := by
  unfold goodSign at h
  simp only [List.mem_cons, List.not_mem_nil, or_false] at h
  omega
theorem good_13 : goodSign 13 := by unfold goodSign; decide
theorem bufl_cr (t : Tok) : bufl (.str (Str.ofString "\r") t) = [13] := by
  show (Str.ofString "\r").cps.toList = [13]
  decide +kernel
structure SB where
  D : Str
  tD : Tok
  buf : Value
structure PB (f : Fx) (D : Str) (place : Int) (z : SB) : Prop where
  hl : 1 ≤ z.D.length
  hu : z.D.length ≤ 80
  hc : (z.buf = .none ∧ z.D = D ∧ (D.cps.toList.getLast? ≠ some 13 ∨ f.raw.cps.toList.drop place.toNat = [])) ∨ (∃ t, z.buf = .str (Str.ofString "\r") t) ∧ D.cps.toList = z.D.cps.toList ++ [13]
/-- what is still to be read -/
abbrev restl (f : Fx) (c : St) : List Nat := bufl c.buf ++ f.raw.cps.toList.drop c.place.toNat
/-- what readChunk tells -/
def RdPost (w : World) (f : Fx) (c : St) (pre : List Nat) (r : Value) (led' : List (Addr × Obj)) : Prop :=
  ∃ (b : Bool) (c' : St), r = .bool b ∧ led' = Led w f c' ∧ Inv f c' (pre ++ c.chunk.cps.toList) ∧ c'.off = 0 ∧ (b = false → c'.chunk.cps.toList = [] ∧ restl f c' = []) ∧ (b = true → 1 ≤ c'.chunk.length ∧ (restl f c').length < (restl f c).length)
theorem rd_true {f : Fx} {c : St} {pre : List Nat} (hI : Inv f c pre) {z : SA} (hA : PA f c z) {v : SB} (hB : PB f z.D z.place v) {R : Str} (hm : R.cps.toList = mend v.D.cps.toList) {es : List Value} (hes : ErrsAre es (bad (f.raw.cps.toList.take c.place.toNat) + bad v.D.cps.toList))
    {t1 t2 t3 t4 t5 t6 : Tok} {ep : Nat} :
    Inv f ⟨R, t1, R.length, t2, 0, t3, es, ep, c.pl + ((c.chunk.cps.toList.take c.size.toNat).count 10 : Nat), t4, colFrom c.pc (c.chunk.cps.toList.take c.size.toNat), t5, v.buf, z.place, t6⟩ (pre ++ c.chunk.cps.toList) ∧
    1 ≤ R.length ∧ (bufl v.buf ++ f.raw.cps.toList.drop z.place.toNat).length < (restl f c).length := by
  obtain ⟨hbuf, hp0, hp1, hsz, ho0, ho1, hpl, hpc, hT, herr⟩ := hI
  obtain ⟨hq0, hq1, hql, hqu, hqs, hqt, hqb⟩ := hA
  obtain ⟨hvl, hvu, hvc⟩ := hB
  have hcl := len_list c.chunk
  have hvL := len_list v.D
  have htk : c.chunk.cps.toList.take c.size.toNat = c.chunk.cps.toList := List.take_of_length_le (by omega)
  have hvne : v.D.cps.toList ≠ [] := fun e => by rw [e] at hvL; simp at hvL; omega
  rw [htk]
  have hR1 : 1 ≤ R.length := by
    rw [← len_list, hm]
    have := mend_ne hvne
    exact List.length_pos_iff.mpr this
  have hrest : restl f c = z.D.cps.toList ++ f.raw.cps.toList.drop z.place.toNat := hqs.symm
  rcases hvc with ⟨hb, hD, hlast⟩ | ⟨⟨t, hb⟩, hD⟩
  · rw [hD] at hm hes hvne hvL hvl
    refine ⟨⟨.inl hb, hq0, hq1, rfl, Int.le_refl _, by dsimp only; omega, ?_, ?_, ?_, ?_⟩, hR1, ?_⟩
    · dsimp only; rw [hpl, List.count_append]; omega
    · dsimp only; rw [hpc, colFrom_append]
    · dsimp only
      have hcut : mend (z.D.cps.toList ++ f.raw.cps.toList.drop z.place.toNat) = mend z.D.cps.toList ++ mend (f.raw.cps.toList.drop z.place.toNat) := by
        refine mend_cut ?_
        rcases hlast with h | h
        · exact .inr ⟨hvne, h⟩
        · rw [h]; exact .inl (by simp)
      rw [hT, ← hqs, hm, hb, hcut]
      show _ = _ ++ mend _ ++ mend ([] ++ _)
      rw [List.nil_append, List.append_assoc, List.append_assoc, List.append_assoc]
    · dsimp only; rw [hqb]; exact hes
    · rw [hb, hrest]
      show ([] ++ _ : List Nat).length < _
      simp only [List.nil_append, List.length_append]
      omega
  · have hbl : bufl v.buf = [13] := by rw [hb, bufl_cr]
    refine ⟨⟨.inr ⟨t, hb⟩, hq0, hq1, rfl, Int.le_refl _, by dsimp only; omega, ?_, ?_, ?_, ?_⟩, hR1, ?_⟩
    · dsimp only; rw [hpl, List.count_append]; omega
    · dsimp only; rw [hpc, colFrom_append]
    · dsimp only
      have hcut : mend (v.D.cps.toList ++ ([13] ++ f.raw.cps.toList.drop z.place.toNat)) = mend v.D.cps.toList ++ mend ([13] ++ f.raw.cps.toList.drop z.place.toNat) := mend_cut (.inl (by simp))
      rw [hT, ← hqs, hm, hbl, hD, List.append_assoc (v.D.cps.toList), hcut, List.append_assoc, List.append_assoc, List.append_assoc]
    · dsimp only
      rw [hqb, hD, bad_append, bad_one (b := false) (by decide)]
      simpa using hes
    · rw [hbl, hrest, hD]
      simp only [List.length_append, List.length_cons, List.length_nil]
      omega
theorem rd_false {f : Fx} {c : St} {pre : List Nat} (hI : Inv f c pre) (hb : c.buf = .none) {x : Str} {n : Int} (hx : x.cps.toList = (f.raw.cps.toList.drop c.place.toNat).take n.toNat) (hn : 2 ≤ n) (hx0 : x.length = 0) {t1 t2 t3 t4 t5 t6 : Tok} {ep : Nat} :
    Inv f ⟨Str.ofString "", t1, 0, t2, 0, t3, c.errs, ep, c.pl + ((c.chunk.cps.toList.take c.size.toNat).count 10 : Nat), t4, colFrom c.pc (c.chunk.cps.toList.take c.size.toNat), t5, .none, c.place + x.length, t6⟩ (pre ++ c.chunk.cps.toList) ∧
    f.raw.cps.toList.drop (c.place + (x.length : Int)).toNat = [] := by
  obtain ⟨hbuf, hp0, hp1, hsz, ho0, ho1, hpl, hpc, hT, herr⟩ := hI
  have hcl := len_list c.chunk
  have hrl := len_list f.raw
  have hxl := len_list x
  have htk : c.chunk.cps.toList.take c.size.toNat = c.chunk.cps.toList := List.take_of_length_le (by omega)
  obtain ⟨a1, a2, a3, a4⟩ := part_facts hx (by omega)
  have e : (c.place + (x.length : Int)).toNat = c.place.toNat + x.cps.toList.length := by omega
  have e' : (c.place + (x.length : Int)).toNat = c.place.toNat := by omega
  have h0 : (Str.ofString "").cps.toList = [] := by decide +kernel
  have h00 : (Str.ofString "").length = 0 := by decide +kernel
  have hd : f.raw.cps.toList.drop (c.place + (x.length : Int)).toNat = [] := by rw [e]; exact a3 (by omega)
  rw [htk]
  refine ⟨⟨.inl rfl, by dsimp only; omega, by dsimp only; omega, by dsimp only; rw [h00]; rfl, Int.le_refl _, Int.le_refl _, ?_, ?_, ?_, ?_⟩, hd⟩
  · dsimp only; rw [hpl, List.count_append]; omega
  · dsimp only; rw [hpc, colFrom_append]
  · dsimp only
    rw [hT, h0, hb, e']
    simp [bufl]
  · dsimp only; rw [e']; exact herr
theorem rdpost_true {w : World} {f : Fx} {c c' : St} {pre : List Nat} (hI' : Inv f c' (pre ++ c.chunk.cps.toList)) (h0 : c'.off = 0) (h1 : 1 ≤ c'.chunk.length) (h2 : (restl f c').length < (restl f c).length) : RdPost w f c pre (.bool true) (Led w f c') :=
  ⟨true, c', rfl, rfl, hI', h0, fun h => Bool.noConfusion h, fun _ => ⟨h1, h2⟩⟩
theorem rdpost_false {w : World} {f : Fx} {c c' : St} {pre : List Nat} (hI' : Inv f c' (pre ++ c.chunk.cps.toList)) (h0 : c'.off = 0) (h1 : c'.chunk.cps.toList = []) (h2 : restl f c' = []) : RdPost w f c pre (.bool false) (Led w f c') :=
  ⟨false, c', rfl, rfl, hI', h0, fun _ => ⟨h1, h2⟩, fun h => Bool.noConfusion h⟩
end

section
theorem fresh_RdChunk : True := by
  w_top off
  k_with_none
  trivial
local macro_rules | `(tactic| walk_at "truthy ref") => `(tactic| (k_here; k_dflt (refine' truthy_meth ?N ?hm ?_; (case N => k_asm); (case hm => k_mem))))
local macro_rules | `(tactic| walk_at "execs cons") => `(tactic| refine wpAny_execs_cons ?_)
local macro_rules | `(tactic| walk_at "truthy str") => `(tactic| (k_here; refine' truthy_str ?z ?_; (case z => omega)))
set_option maxRecDepth 100000 in
set_option maxHeartbeats 8000000 in
theorem con_rd (w : World) (f : Fx) (hf : f.Ok) (hr : GoodRaw f) (c : St) (pre : List Nat) (hI : Inv f c pre) (n : Int) (t : Tok) (hn : 2 ≤ n) (hn2 : n ≤ 10240) : Con w 113 4 24 (Led w f c) [.ref f.q, .int n t]
    (RdPost w f c pre) := by
  unfold Con
  k_fill
  intro mean mg mb dp un gd cn cs a ccd cl outer A₀ base h₀ L m own s Q E B F X N T hk hoff hd hu hret
  obtain ⟨hf1, hf2, hf3, hf4, hf5, hf6⟩ := id hf
  obtain ⟨hbuf, hp0, hp1, hsz, ho0, ho1, hpl, hpc, hT, herr⟩ := id hI
  obtain ⟨hlen, hsign⟩ := id hr
  obtain ⟨chunk, tch, size, tsz, off, tof, errs, ep, pl, tpl, pc, tpc, buf, place, tpp⟩ := c
  dsimp only at hbuf hp0 hp1 hsz ho0 ho1 hpl hpc hT herr
  simp only [List.cons_append, List.nil_append] at N
  simp only [List.map_cons, List.map_nil] at hoff
  k_with_none
  have hs0 : 0 ≤ size := by omega
  have hs1 : size ≤ chunk.length := by omega
  have hn0 : 0 ≤ n := by omega
  k_with "call ref" => k_dflt (walk_at "my fold"; (rename News _ _ _ (Led _ _ _ ++ _) => nL); (refine' con_useN nL (con__position w f _ size _ ?p0 ?p1) ?B ?F ?X ?T ?hk hoff ?hd ?hu ?_); walk_at "my use"; (case p0 => first | assumption | omega); (case p1 => first | assumption | omega); (intro r' led' h' tk' hP' F' N'; obtain ⟨a', ta', tb', hr', ha', hl'⟩ := hP'; subst hr'; subst hl'; simp only [List.cons_append, List.nil_append] at N'; (try dsimp only at N'); (try dsimp only)))
  k_with "call ref" => k_dflt (walk_at "my fold"; (rename News _ _ _ (Led _ _ _ ++ _) => nL); (refine' con_useN nL (con_read w f hf _ n _ ?p0 ?p1 hn0 hlen hn2) ?B ?F ?X ?T ?hk hoff ?hd ?hu ?_); walk_at "my use"; (case p0 => first | assumption | omega); (case p1 => first | assumption | omega); (intro r' led' h' tk' hP' F' N'; obtain ⟨x', tx', tp', hx', hr', hl'⟩ := hP'; (have hxl' := part_len hx' hlen); subst hr'; subst hl'; simp only [List.cons_append, List.nil_append] at N'; (try dsimp only at N'); (try dsimp only)))
  refine wpAny_call ?_
  walk_at "my enter"
  (rename Fr _ _ _ _ => lF')
  refine my_cutk 7 (σ := SA) (fun z => Led w f (stA ⟨chunk, tch, size, tsz, off, tof, errs, ep, pl, tpl, pc, tpc, buf, place, tpp⟩ z)) own (fun z => [("data", .str z.D z.tD)]) ["chunkSize"] (fun z => PA f ⟨chunk, tch, size, tsz, off, tof, errs, ep, pl, tpl, pc, tpc, buf, place, tpp⟩ z) lF' ?_ ?_
  · simp only [List.take_succ_cons, List.take_zero]
    (try k_fold)
    k_steps
    rcases hbuf with rfl | ⟨tb, rfl⟩
    · k_steps
      · dsimp only [CutPost]
        (rename News _ _ _ _ => nE)
        refine' cut_end ⟨_, _, _, _, _, _, _, _, _⟩ (by k_asm) nE (by kst_all) (by walk_at "my cutsame") (pa_none hx' hp0 hp1 hn ?_ hlen rfl)
        simp_all
      · dsimp only [CutPost]
        k_steps
        dsimp only [CutPost]
        k_steps
        (rename News _ _ _ _ => nE)
        have hx0 : x'.length = 0 := by simp_all
        obtain ⟨hI', hd'⟩ := rd_false hI rfl hx' hn hx0
        exact hret _ (Led w f ⟨Str.ofString "", _, 0, _, 0, _, _, _, _, _, _, _, .none, _, _⟩) _ _ (by k_asm) nE (rdpost_false hI' rfl (by show (Str.ofString "").cps.toList = []; decide +kernel) (by show [] ++ _ = _; rw [List.nil_append]; exact hd'))
    · k_steps
      · dsimp only [CutPost]
        (rename News _ _ _ _ => nE)
        exact cut_end ⟨_, _, _, _, _, _, _, _, _⟩ (by k_asm) nE (by kst_all) (by walk_at "my cutsame") (pa_str hx' hp0 hp1 hn hlen rfl)
  · rintro ⟨D, tD, tch', tsz', tof', tpl', tpc', place', tpp'⟩ u h tk hle hP F₁ N₁
    have htk1 : 1 ≤ tk := Nat.le_trans (show 1 ≤ s.toks + 2 by omega) hle
    have hPA := hP
    obtain ⟨hq0, hq1, hql, hqu, hqs, hqt, hqb⟩ := hP
    dsimp only at hq0 hq1 hql hqu hqs hqt hqb
    simp only [List.cons_append, List.nil_append] at N₁
    dsimp only at N₁ F₁
    clear lF' N
    simp only [List.drop_succ_cons, List.drop_zero]
    refine my_cutk 1 (σ := SB) (fun z => Led w f ⟨Str.ofString "", tch', 0, tsz', 0, tof', errs, ep, pl + ((chunk.cps.toList.take size.toNat).count 10 : Nat), tpl', colFrom pc (chunk.cps.toList.take size.toNat), tpc', z.buf, place', tpp'⟩) own (fun z => [("data", .str z.D z.tD)]) ["lastv"] (fun z => PB f D place' z) F₁ ?_ ?_
    · simp only [List.take_succ_cons, List.take_zero]
      (try k_fold)
      obtain ⟨z, hz1, hz2⟩ := last_item hql
      have hzg : z < 55296 ∨ 56319 < z := by
        have hm : z ∈ D.cps.toList ++ f.raw.cps.toList.drop place'.toNat := by rw [hz1]; simp
        rw [hqs] at hm
        rcases List.mem_append.mp hm with hm | hm
        · rcases hbuf with rfl | ⟨tb, rfl⟩
          · exact nomatch hm
          · have : z = 13 := by
              rw [bufl_cr] at hm; exact List.mem_singleton.mp hm
            omega
        · exact good_range (hsign z (List.mem_of_mem_drop hm))
      k_steps
      · dsimp only [CutPost]
        (rename News _ _ _ _ => nE)
        (rename _ = (13 : Int) => hA)
        rw [hz2] at hA
        have hz13 : z = 13 := by
          have e : (#[z] : Array Nat).getD 0 0 = z := rfl
          dsimp only at hA
          rw [e] at hA
          omega
        have hcr : Txt.item D (-1) = Str.ofString "\r" := by rw [hz2, hz13]; decide +kernel
        rw [hcr] at nE
        have hsl := slice_but hql
        have hsll : (Txt.slice D none (some (-1))).length = D.length - 1 := by
          have h1 := len_list D
          rw [← len_list, hsl, List.length_take]; omega
        refine' cut_end ⟨Txt.slice D none (some (-1)), _, _⟩ (by k_asm) nE (by kst_all) (by walk_at "my cutsame") ⟨?_, ?_, ?_⟩
        · dsimp only; omega
        · dsimp only; omega
        · refine .inr ⟨⟨_, rfl⟩, ?_⟩
          dsimp only
          rw [hsl, ← hz13]; exact hz1
      · exfalso
        (rename _ ≤ (56319 : Int) => hA)
        (rename (55296 : Int) ≤ _ => hB)
        rw [hz2] at hA hB
        have e : (#[z] : Array Nat).getD 0 0 = z := rfl
        dsimp only at hA hB
        rw [e] at hA hB
        omega
      · dsimp only [CutPost]
        (rename News _ _ _ _ => nE)
        (rename _ ≠ (13 : Int) => hA)
        rw [hz2] at hA
        have hz13 : z ≠ 13 := by
          have e : (#[z] : Array Nat).getD 0 0 = z := rfl
          dsimp only at hA
          rw [e] at hA
          omega
        refine' cut_end ⟨D, _, _⟩ (by k_asm) nE (by kst_all) (by walk_at "my cutsame") ⟨hql, hqu, .inl ⟨rfl, rfl, .inl ?_⟩⟩
        rw [hz1, List.getLast?_concat]
        simpa using hz13
      · dsimp only [CutPost]
        (rename News _ _ _ _ => nE)
        (rename _ ≠ (13 : Int) => hA)
        rw [hz2] at hA
        have hz13 : z ≠ 13 := by
          have e : (#[z] : Array Nat).getD 0 0 = z := rfl
          dsimp only at hA
          rw [e] at hA
          omega
        refine' cut_end ⟨D, _, _⟩ (by k_asm) nE (by kst_all) (by walk_at "my cutsame") ⟨hql, hqu, .inl ⟨rfl, rfl, .inl ?_⟩⟩
        rw [hz1, List.getLast?_concat]
        simpa using hz13
      · dsimp only [CutPost]
        (rename News _ _ _ _ => nE)
        refine' cut_end ⟨D, _, _⟩ (by k_asm) nE (by kst_all) (by walk_at "my cutsame") ⟨hql, hqu, .inl ⟨rfl, rfl, .inr ?_⟩⟩
        rcases hqt with h | h
        · exact h
        · exfalso; omega
    · rintro ⟨D', tD', buf'⟩ u h tk₂ hle₂ hP F₁ N₁
      have htk2 : 1 ≤ tk₂ := Nat.le_trans htk1 hle₂
      obtain ⟨hvl, hvu, hvc⟩ := hP
      dsimp only at hvl hvu hvc
      simp only [List.cons_append, List.nil_append] at N₁
      dsimp only at N₁ F₁
      simp only [List.drop_succ_cons, List.drop_zero]
      have hbd : bad (f.raw.cps.toList.take place.toNat) ≤ 40 := by
        have h1 := bad_le (f.raw.cps.toList.take place.toNat)
        have h2 := len_list f.raw
        rw [List.length_take] at h1
        omega
      k_with_none
      k_with "call ref" => k_dflt (walk_at "my fold"; (rename News _ _ _ (Led _ _ _ ++ _) => nL); (refine' con_meth nL (by k_mem) (con_errs_c w f hf _ D' _ _ ?p0 hvu ?p1) ?B ?F ?X ?T ?hk hoff ?hd ?hu ?_); walk_at "my use"; (case p0 => exact herr); (case p1 => exact hbd); (intro r' led' h' tk' hP' F' N'; obtain ⟨hr', es', ep', hes', hl'⟩ := hP'; subst hr'; subst hl'; simp only [List.cons_append, List.nil_append] at N'; (try dsimp only at N'); (try dsimp only)))
      refine my_cutk 1 (σ := List Value × Nat) (fun z => Led w f ⟨Str.ofString "", tch', 0, tsz', 0, tof', z.1, z.2, pl + ((chunk.cps.toList.take size.toNat).count 10 : Nat), tpl', colFrom pc (chunk.cps.toList.take size.toNat), tpc', buf', place', tpp'⟩) own (fun z => [("data", .str D' tD')]) [] (fun z => ErrsAre z.1 (bad (f.raw.cps.toList.take place.toNat) + bad D'.cps.toList)) F₁ ?_ ?_
      · simp only [List.take_succ_cons, List.take_zero]
        (try k_fold)
        k_steps
        dsimp only [CutPost]
        (rename News _ _ _ _ => nE)
        exact cut_end ⟨_, _⟩ (by k_asm) nE (by kst_all) (by walk_at "my cutsame") hes'
      · rintro ⟨es, ep'⟩ u h tk₃ hle₃ hP F₁ N₁
        have htk3 : 1 ≤ tk₃ := Nat.le_trans htk2 hle₃
        (try dsimp only at hP)
        have hnl : (Str.ofString "\n").length = 1 := by decide +kernel
        have hrl := replaced_le (x := D')
        have hm := replaced (x := D')
        have hrl2 : (Txt.replace (Txt.replace D' (Str.ofString "\r\n") (Str.ofString "\n")) (Str.ofString "\r") (Str.ofString "\n")).length ≤ 80 := by
          have h1 := congrArg List.length hm
          have h2 : (mend D'.cps.toList).length ≤ D'.cps.toList.length := mend_le D'.cps.toList false
          have h3 := len_list D'
          rw [len_list] at h1
          omega
        k_with "call builtin:str.replace" => k_dflt ((refine' SC.replace ?u ?v ?uv ?yz ?b ?_); (case u => (refine neN ?_; omega)); (case v => (refine neN ?_; omega)); (case uv => (refine neN ?_; omega)); (case yz => decide +kernel); (case b => (rw [hnl]; omega)); (intro t' k'; (try dsimp only)))
        simp only [List.cons_append, List.nil_append] at N₁
        (try dsimp only at N₁)
        (try dsimp only at F₁)
        simp only [List.drop_succ_cons, List.drop_zero]
        (try k_fold)
        k_steps
        (rename News _ _ _ _ => nE)
        have hPB : PB f D place' ⟨D', tD', buf'⟩ := ⟨hvl, hvu, hvc⟩
        obtain ⟨hI', hR1, hlt⟩ := rd_true hI (z := ⟨D, tD, tch', tsz', tof', tpl', tpc', place', tpp'⟩) hPA hPB hm hP
        exact hret _ (Led w f ⟨_, _, _, _, 0, _, _, _, _, _, _, _, _, _, _⟩) _ _ (by k_asm) nE (rdpost_true hI' rfl hR1 hlt)
end

section
local macro_rules | `(tactic| walk_at "my pad 0") => `(tactic| skip)
theorem fresh_RdChunk0 : True := by
  w_top off
  k_with_none
  trivial
local macro_rules | `(tactic| walk_at "truthy ref") => `(tactic| (k_here; k_dflt (refine' truthy_meth ?N ?hm ?_; (case N => k_asm); (case hm => k_mem))))
local macro_rules | `(tactic| walk_at "execs cons") => `(tactic| refine wpAny_execs_cons ?_)
local macro_rules | `(tactic| walk_at "truthy str") => `(tactic| (k_here; refine' truthy_str ?z ?_; (case z => omega)))
set_option maxRecDepth 100000 in
set_option maxHeartbeats 8000000 in
theorem con_rd0 (w : World) (f : Fx) (hf : f.Ok) (hr : GoodRaw f) (c : St) (pre : List Nat) (hI : Inv f c pre) : Con w 113 4 24 (Led w f c) [.ref f.q]
    (RdPost w f c pre) := by
  unfold Con
  k_fill
  intro mean mg mb dp un gd cn cs a ccd cl outer A₀ base h₀ L m own s Q E B F X N T hk hoff hd hu hret
  obtain ⟨hf1, hf2, hf3, hf4, hf5, hf6⟩ := id hf
  obtain ⟨hbuf, hp0, hp1, hsz, ho0, ho1, hpl, hpc, hT, herr⟩ := id hI
  obtain ⟨hlen, hsign⟩ := id hr
  obtain ⟨chunk, tch, size, tsz, off, tof, errs, ep, pl, tpl, pc, tpc, buf, place, tpp⟩ := c
  dsimp only at hbuf hp0 hp1 hsz ho0 ho1 hpl hpc hT herr
  simp only [List.cons_append, List.nil_append] at N
  simp only [List.map_cons, List.map_nil] at hoff
  k_with_none
  have hs0 : 0 ≤ size := by omega
  have hs1 : size ≤ chunk.length := by omega
  have hn : (2 : Int) ≤ 10240 := by decide
  have hn2 : (10240 : Int) ≤ 10240 := by decide
  have hn0 : (0 : Int) ≤ 10240 := by decide
  k_with "call ref" => k_dflt (walk_at "my fold"; (rename News _ _ _ (Led _ _ _ ++ _) => nL); (refine' con_useN nL (con__position w f _ size _ ?p0 ?p1) ?B ?F ?X ?T ?hk hoff ?hd ?hu ?_); walk_at "my use"; (case p0 => first | assumption | omega); (case p1 => first | assumption | omega); (intro r' led' h' tk' hP' F' N'; obtain ⟨a', ta', tb', hr', ha', hl'⟩ := hP'; subst hr'; subst hl'; simp only [List.cons_append, List.nil_append] at N'; (try dsimp only at N'); (try dsimp only)))
  k_with "call ref" => k_dflt (walk_at "my fold"; (rename News _ _ _ (Led _ _ _ ++ _) => nL); (refine' con_useN nL (con_read w f hf _ 10240 _ ?p0 ?p1 hn0 hlen hn2) ?B ?F ?X ?T ?hk hoff ?hd ?hu ?_); walk_at "my use"; (case p0 => first | assumption | omega); (case p1 => first | assumption | omega); (intro r' led' h' tk' hP' F' N'; obtain ⟨x', tx', tp', hx', hr', hl'⟩ := hP'; (have hxl' := part_len hx' hlen); subst hr'; subst hl'; simp only [List.cons_append, List.nil_append] at N'; (try dsimp only at N'); (try dsimp only)))
  refine wpAny_call ?_
  walk_at "my enter"
  (rename Fr _ _ _ _ => lF')
  refine my_cutk 7 (σ := SA) (fun z => Led w f (stA ⟨chunk, tch, size, tsz, off, tof, errs, ep, pl, tpl, pc, tpc, buf, place, tpp⟩ z)) own (fun z => [("data", .str z.D z.tD)]) ["chunkSize"] (fun z => PA f ⟨chunk, tch, size, tsz, off, tof, errs, ep, pl, tpl, pc, tpc, buf, place, tpp⟩ z) lF' ?_ ?_
  · simp only [List.take_succ_cons, List.take_zero]
    (try k_fold)
    k_steps
    rcases hbuf with rfl | ⟨tb, rfl⟩
    · k_steps
      · dsimp only [CutPost]
        (rename News _ _ _ _ => nE)
        refine' cut_end ⟨_, _, _, _, _, _, _, _, _⟩ (by k_asm) nE (by kst_all) (by walk_at "my cutsame") (pa_none hx' hp0 hp1 hn ?_ hlen rfl)
        simp_all
      · dsimp only [CutPost]
        k_steps
        dsimp only [CutPost]
        k_steps
        (rename News _ _ _ _ => nE)
        have hx0 : x'.length = 0 := by simp_all
        obtain ⟨hI', hd'⟩ := rd_false hI rfl hx' hn hx0
        exact hret _ (Led w f ⟨Str.ofString "", _, 0, _, 0, _, _, _, _, _, _, _, .none, _, _⟩) _ _ (by k_asm) nE (rdpost_false hI' rfl (by show (Str.ofString "").cps.toList = []; decide +kernel) (by show [] ++ _ = _; rw [List.nil_append]; exact hd'))
    · k_steps
      · dsimp only [CutPost]
        (rename News _ _ _ _ => nE)
        exact cut_end ⟨_, _, _, _, _, _, _, _, _⟩ (by k_asm) nE (by kst_all) (by walk_at "my cutsame") (pa_str hx' hp0 hp1 hn hlen rfl)
  · rintro ⟨D, tD, tch', tsz', tof', tpl', tpc', place', tpp'⟩ u h tk hle hP F₁ N₁
    have htk1 : 1 ≤ tk := Nat.le_trans (show 1 ≤ s.toks + 2 by omega) hle
    have hPA := hP
    obtain ⟨hq0, hq1, hql, hqu, hqs, hqt, hqb⟩ := hP
    dsimp only at hq0 hq1 hql hqu hqs hqt hqb
    simp only [List.cons_append, List.nil_append] at N₁
    dsimp only at N₁ F₁
    clear lF' N
    simp only [List.drop_succ_cons, List.drop_zero]
    refine my_cutk 1 (σ := SB) (fun z => Led w f ⟨Str.ofString "", tch', 0, tsz', 0, tof', errs, ep, pl + ((chunk.cps.toList.take size.toNat).count 10 : Nat), tpl', colFrom pc (chunk.cps.toList.take size.toNat), tpc', z.buf, place', tpp'⟩) own (fun z => [("data", .str z.D z.tD)]) ["lastv"] (fun z => PB f D place' z) F₁ ?_ ?_
    · simp only [List.take_succ_cons, List.take_zero]
      (try k_fold)
      obtain ⟨z, hz1, hz2⟩ := last_item hql
      have hzg : z < 55296 ∨ 56319 < z := by
        have hm : z ∈ D.cps.toList ++ f.raw.cps.toList.drop place'.toNat := by rw [hz1]; simp
        rw [hqs] at hm
        rcases List.mem_append.mp hm with hm | hm
        · rcases hbuf with rfl | ⟨tb, rfl⟩
          · exact nomatch hm
          · have : z = 13 := by
              rw [bufl_cr] at hm; exact List.mem_singleton.mp hm
            omega
        · exact good_range (hsign z (List.mem_of_mem_drop hm))
      k_steps
      · dsimp only [CutPost]
        (rename News _ _ _ _ => nE)
        (rename _ = (13 : Int) => hA)
        rw [hz2] at hA
        have hz13 : z = 13 := by
          have e : (#[z] : Array Nat).getD 0 0 = z := rfl
          dsimp only at hA
          rw [e] at hA
          omega
        have hcr : Txt.item D (-1) = Str.ofString "\r" := by rw [hz2, hz13]; decide +kernel
        rw [hcr] at nE
        have hsl := slice_but hql
        have hsll : (Txt.slice D none (some (-1))).length = D.length - 1 := by
          have h1 := len_list D
          rw [← len_list, hsl, List.length_take]; omega
        refine' cut_end ⟨Txt.slice D none (some (-1)), _, _⟩ (by k_asm) nE (by kst_all) (by walk_at "my cutsame") ⟨?_, ?_, ?_⟩
        · dsimp only; omega
        · dsimp only; omega
        · refine .inr ⟨⟨_, rfl⟩, ?_⟩
          dsimp only
          rw [hsl, ← hz13]; exact hz1
      · exfalso
        (rename _ ≤ (56319 : Int) => hA)
        (rename (55296 : Int) ≤ _ => hB)
        rw [hz2] at hA hB
        have e : (#[z] : Array Nat).getD 0 0 = z := rfl
        dsimp only at hA hB
        rw [e] at hA hB
        omega
      · dsimp only [CutPost]
        (rename News _ _ _ _ => nE)
        (rename _ ≠ (13 : Int) => hA)
        rw [hz2] at hA
        have hz13 : z ≠ 13 := by
          have e : (#[z] : Array Nat).getD 0 0 = z := rfl
          dsimp only at hA
          rw [e] at hA
          omega
        refine' cut_end ⟨D, _, _⟩ (by k_asm) nE (by kst_all) (by walk_at "my cutsame") ⟨hql, hqu, .inl ⟨rfl, rfl, .inl ?_⟩⟩
        rw [hz1, List.getLast?_concat]
        simpa using hz13
      · dsimp only [CutPost]
        (rename News _ _ _ _ => nE)
        (rename _ ≠ (13 : Int) => hA)
        rw [hz2] at hA
        have hz13 : z ≠ 13 := by
          have e : (#[z] : Array Nat).getD 0 0 = z := rfl
          dsimp only at hA
          rw [e] at hA
          omega
        refine' cut_end ⟨D, _, _⟩ (by k_asm) nE (by kst_all) (by walk_at "my cutsame") ⟨hql, hqu, .inl ⟨rfl, rfl, .inl ?_⟩⟩
        rw [hz1, List.getLast?_concat]
        simpa using hz13
      · dsimp only [CutPost]
        (rename News _ _ _ _ => nE)
        refine' cut_end ⟨D, _, _⟩ (by k_asm) nE (by kst_all) (by walk_at "my cutsame") ⟨hql, hqu, .inl ⟨rfl, rfl, .inr ?_⟩⟩
        rcases hqt with h | h
        · exact h
        · exfalso; omega
    · rintro ⟨D', tD', buf'⟩ u h tk₂ hle₂ hP F₁ N₁
      have htk2 : 1 ≤ tk₂ := Nat.le_trans htk1 hle₂
      obtain ⟨hvl, hvu, hvc⟩ := hP
      dsimp only at hvl hvu hvc
      simp only [List.cons_append, List.nil_append] at N₁
      dsimp only at N₁ F₁
      simp only [List.drop_succ_cons, List.drop_zero]
      have hbd : bad (f.raw.cps.toList.take place.toNat) ≤ 40 := by
        have h1 := bad_le (f.raw.cps.toList.take place.toNat)
        have h2 := len_list f.raw
        rw [List.length_take] at h1
        omega
      k_with_none
      k_with "call ref" => k_dflt (walk_at "my fold"; (rename News _ _ _ (Led _ _ _ ++ _) => nL); (refine' con_meth nL (by k_mem) (con_errs_c w f hf _ D' _ _ ?p0 hvu ?p1) ?B ?F ?X ?T ?hk hoff ?hd ?hu ?_); walk_at "my use"; (case p0 => exact herr); (case p1 => exact hbd); (intro r' led' h' tk' hP' F' N'; obtain ⟨hr', es', ep', hes', hl'⟩ := hP'; subst hr'; subst hl'; simp only [List.cons_append, List.nil_append] at N'; (try dsimp only at N'); (try dsimp only)))
      refine my_cutk 1 (σ := List Value × Nat) (fun z => Led w f ⟨Str.ofString "", tch', 0, tsz', 0, tof', z.1, z.2, pl + ((chunk.cps.toList.take size.toNat).count 10 : Nat), tpl', colFrom pc (chunk.cps.toList.take size.toNat), tpc', buf', place', tpp'⟩) own (fun z => [("data", .str D' tD')]) [] (fun z => ErrsAre z.1 (bad (f.raw.cps.toList.take place.toNat) + bad D'.cps.toList)) F₁ ?_ ?_
      · simp only [List.take_succ_cons, List.take_zero]
        (try k_fold)
        k_steps
        dsimp only [CutPost]
        (rename News _ _ _ _ => nE)
        exact cut_end ⟨_, _⟩ (by k_asm) nE (by kst_all) (by walk_at "my cutsame") hes'
      · rintro ⟨es, ep'⟩ u h tk₃ hle₃ hP F₁ N₁
        have htk3 : 1 ≤ tk₃ := Nat.le_trans htk2 hle₃
        (try dsimp only at hP)
        have hnl : (Str.ofString "\n").length = 1 := by decide +kernel
        have hrl := replaced_le (x := D')
        have hm := replaced (x := D')
        have hrl2 : (Txt.replace (Txt.replace D' (Str.ofString "\r\n") (Str.ofString "\n")) (Str.ofString "\r") (Str.ofString "\n")).length ≤ 80 := by
          have h1 := congrArg List.length hm
          have h2 : (mend D'.cps.toList).length ≤ D'.cps.toList.length := mend_le D'.cps.toList false
          have h3 := len_list D'
          rw [len_list] at h1
          omega
        k_with "call builtin:str.replace" => k_dflt ((refine' SC.replace ?u ?v ?uv ?yz ?b ?_); (case u => (refine neN ?_; omega)); (case v => (refine neN ?_; omega)); (case uv => (refine neN ?_; omega)); (case yz => decide +kernel); (case b => (rw [hnl]; omega)); (intro t' k'; (try dsimp only)))
        simp only [List.cons_append, List.nil_append] at N₁
        (try dsimp only at N₁)
        (try dsimp only at F₁)
        simp only [List.drop_succ_cons, List.drop_zero]
        (try k_fold)
        k_steps
        (rename News _ _ _ _ => nE)
        have hPB : PB f D place' ⟨D', tD', buf'⟩ := ⟨hvl, hvu, hvc⟩
        obtain ⟨hI', hR1, hlt⟩ := rd_true hI (z := ⟨D, tD, tch', tsz', tof', tpl', tpc', place', tpp'⟩) hPA hPB hm hP
        exact hret _ (Led w f ⟨_, _, _, _, 0, _, _, _, _, _, _, _, _, _, _⟩) _ _ (by k_asm) nE (rdpost_true hI' rfl hR1 hlt)
end

section
/-- the mended text that is still to come -/
abbrev remT (f : Fx) (c : St) : List Nat := c.chunk.cps.toList.drop c.off.toNat ++ mend (restl f c)
theorem rem_text {f : Fx} {c : St} {pre : List Nat} (hI : Inv f c pre) : mend f.raw.cps.toList = (pre ++ c.chunk.cps.toList.take c.off.toNat) ++ remT f c := by
  rw [hI.hT]
  have e := List.take_append_drop c.off.toNat c.chunk.cps.toList
  conv => lhs; rw [← e]
  simp only [List.append_assoc]
theorem done_text {f : Fx} {c : St} {pre : List Nat} (hI : Inv f c pre) : pre ++ c.chunk.cps.toList.take c.off.toNat = (mend f.raw.cps.toList).take ((mend f.raw.cps.toList).length - (remT f c).length) := by
  have h := rem_text hI
  have hl := congrArg List.length h
  rw [List.length_append] at hl
  rw [h]
  have e : ((pre ++ c.chunk.cps.toList.take c.off.toNat) ++ remT f c).length - (remT f c).length = (pre ++ c.chunk.cps.toList.take c.off.toNat).length := by
    rw [List.length_append]; omega
  rw [e, List.take_left']
  rfl
theorem con_spot (w : World) (f : Fx) (c : St) (pre : List Nat) (hI : Inv f c pre) : Con w 98 2 16 (Led w f c) [.ref f.q]
    (fun r led' => ∃ a ta tb, r = .ref a ∧ (@LT.lt Nat _ f.dq a ∧ @LT.lt Nat _ f.er a ∧ @LT.lt Nat _ f.d a) ∧
      led' = (a, tupOf #[.int ((((mend f.raw.cps.toList).take ((mend f.raw.cps.toList).length - (remT f c).length)).count 10 : Nat) + 1) ta, .int (colFrom 0 ((mend f.raw.cps.toList).take ((mend f.raw.cps.toList).length - (remT f c).length))) tb]) :: Led w f c) := by
  have h := con_position w f c hI.ho0 (by have := hI.ho1; have := hI.hsz; omega)
  rw [← done_text hI]
  have e1 : c.pl + ((c.chunk.cps.toList.take c.off.toNat).count 10 : Nat) + 1 = (((pre ++ c.chunk.cps.toList.take c.off.toNat).count 10 : Nat) : Int) + 1 := by
    rw [hI.hpl, List.count_append]; omega
  have e2 : colFrom c.pc (c.chunk.cps.toList.take c.off.toNat) = colFrom 0 (pre ++ c.chunk.cps.toList.take c.off.toNat) := by rw [hI.hpc, colFrom_append]
  rw [e1, e2] at h
  exact h
/-- what char tells -/
def ChPost (w : World) (f : Fx) (c : St) (r : Value) (led' : List (Addr × Obj)) : Prop :=
  ∃ (c' : St) (pre' : List Nat), led' = Led w f c' ∧ Inv f c' pre' ∧ ((remT f c = [] ∧ r = .none ∧ remT f c' = []) ∨ ∃ ch tl t, remT f c = ch :: tl ∧ r = .str ⟨#[ch]⟩ t ∧ remT f c' = tl)
theorem rem_over {f : Fx} {c : St} {pre : List Nat} (hI : Inv f c pre) (h : c.size ≤ c.off) : remT f c = mend (restl f c) := by
  have h1 := hI.hsz
  have h2 := len_list c.chunk
  show _ ++ _ = _
  rw [List.drop_eq_nil_of_le (by omega), List.nil_append]
theorem rem_after {f : Fx} {c c' : St} {pre : List Nat} (hI : Inv f c pre) (h : c.size ≤ c.off) (hI' : Inv f c' (pre ++ c.chunk.cps.toList)) (h0 : c'.off = 0) : remT f c' = remT f c := by
  rw [rem_over hI h]
  have a := hI.hT
  have b := hI'.hT
  rw [a, List.append_assoc (pre ++ _)] at b
  have := List.append_cancel_left b
  show _ ++ _ = _
  rw [h0]
  exact this.symm
theorem ch_step {f : Fx} {c : St} {pre : List Nat} (hI : Inv f c pre) (h : c.off < c.size) {tof t : Tok} : ∃ ch tl, remT f c = ch :: tl ∧ (.str (Txt.item c.chunk c.off) t : Value) = .str ⟨#[ch]⟩ t ∧ Inv f { c with off := c.off + 1, tof := tof } pre ∧ remT f { c with off := c.off + 1, tof := tof } = tl := by
  have h1 := hI.hsz
  have h2 := len_list c.chunk
  have h3 := hI.ho0
  have hlt : c.off.toNat < c.chunk.cps.toList.length := by omega
  refine ⟨c.chunk.cps.toList[c.off.toNat], c.chunk.cps.toList.drop (c.off.toNat + 1) ++ mend (restl f c), ?_, ?_, ?_, ?_⟩
  · show _ ++ _ = _
    rw [List.drop_eq_getElem_cons hlt, List.cons_append]
  · congr 1
    refine item_meets h3 ?_
    rw [← Array.getElem?_toList]
    exact List.getElem?_eq_getElem hlt
  · exact ⟨hI.hbuf, hI.hp0, hI.hp1, hI.hsz, by show 0 ≤ c.off + 1; omega, by show c.off + 1 ≤ c.size; omega, hI.hpl, hI.hpc, hI.hT, hI.herr⟩
  · show List.drop (c.off + 1).toNat _ ++ _ = _
    have e : (c.off + 1).toNat = c.off.toNat + 1 := by omega
    rw [e]
theorem chunk_le {f : Fx} {c : St} {pre : List Nat} (hI : Inv f c pre) (hr : GoodRaw f) : c.chunk.length ≤ 40 := by
  have h := congrArg List.length hI.hT
  have h1 : (mend f.raw.cps.toList).length ≤ f.raw.cps.toList.length := mend_le _ _
  have h2 := len_list f.raw
  have h3 := len_list c.chunk
  have h4 := hr.hlen
  simp only [List.length_append] at h
  omega
theorem ch_none {w : World} {f : Fx} {c c' : St} {pre : List Nat} (hI : Inv f c pre) (h : c.size ≤ c.off) (hI' : Inv f c' (pre ++ c.chunk.cps.toList)) (h0 : c'.off = 0) (hc0 : c'.chunk.cps.toList = []) (hr0 : restl f c' = []) : ChPost w f c .none (Led w f c') := by
  have e := rem_after hI h hI' h0
  have e' : remT f c' = [] := by
    show _ ++ _ = _
    rw [hc0, hr0]; simp [mendFrom]
  exact ⟨c', _, rfl, hI', .inl ⟨e ▸ e', rfl, e'⟩⟩
theorem ch_here {w : World} {f : Fx} {c : St} {pre : List Nat} (hI : Inv f c pre) (h : c.off < c.size) {tof t : Tok} : ChPost w f c (.str (Txt.item c.chunk c.off) t) (Led w f { c with off := c.off + 1, tof := tof }) := by
  obtain ⟨ch, tl, h1, h2, h3, h4⟩ := ch_step (tof := tof) (t := t) hI h
  exact ⟨_, _, rfl, h3, .inr ⟨ch, tl, t, h1, h2, h4⟩⟩
theorem ch_next {w : World} {f : Fx} {c c' : St} {pre : List Nat} (hI : Inv f c pre) (h : c.size ≤ c.off) (hI' : Inv f c' (pre ++ c.chunk.cps.toList)) (h0 : c'.off = 0) (h1 : 1 ≤ c'.chunk.length) {tof t : Tok} : ChPost w f c (.str (Txt.item c'.chunk c'.off) t) (Led w f { c' with off := c'.off + 1, tof := tof }) := by
  have e := rem_after hI h hI' h0
  have hs := hI'.hsz
  obtain ⟨ch, tl, h1, h2, h3, h4⟩ := ch_step (tof := tof) (t := t) hI' (by omega)
  exact ⟨_, _, rfl, h3, .inr ⟨ch, tl, t, e ▸ h1, h2, h4⟩⟩
end

section
theorem fresh_CChar : True := by
  w_top off
  k_with_none
  trivial
local macro_rules | `(tactic| walk_at "truthy str") => `(tactic| (k_here; refine' truthy_str ?z ?_; (case z => omega)))
set_option maxRecDepth 100000 in
set_option maxHeartbeats 8000000 in
theorem con_char (w : World) (f : Fx) (hf : f.Ok) (hr : GoodRaw f) (c : St) (pre : List Nat) (hI : Inv f c pre) : Con w 105 5 32 (Led w f c) [.ref f.q] (ChPost w f c) := by
  unfold Con
  k_fill
  intro mean mg mb dp un gd cn cs a ccd cl outer A₀ base h₀ L m own s Q E B F X N T hk hoff hd hu hret
  obtain ⟨hf1, hf2, hf3, hf4, hf5, hf6⟩ := id hf
  obtain ⟨chunk, tch, size, tsz, off, tof, errs, ep, pl, tpl, pc, tpc, buf, place, tpp⟩ := c
  have hsz := hI.hsz
  have ho0 := hI.ho0
  have ho1 := hI.ho1
  have hcl := chunk_le hI hr
  dsimp only at hsz ho0 ho1 hcl
  simp only [List.cons_append, List.nil_append] at N
  simp only [List.map_cons, List.map_nil] at hoff
  k_with_none
  k_with "call ref" => k_dflt (walk_at "my fold"; (rename News _ _ _ (Led _ _ _ ++ _) => nL); (refine' con_useN nL (con_rd0 w f hf hr _ pre hI) ?B ?F ?X ?T ?hk hoff ?hd ?hu ?_); walk_at "my use"; (intro r' led' h' tk' hP' F' N'; obtain ⟨b, c', hr', hl', hI', ho', hfl, htr⟩ := hP'; obtain ⟨chunk', tch', size', tsz', off', tof', errs', ep', pl', tpl', pc', tpc', buf', place', tpp'⟩ := c'; subst hr'; subst hl'; simp only [List.cons_append, List.nil_append] at N'; (have hcl' := chunk_le hI' hr); (try dsimp only at N' ho' hfl htr hcl'); (subst ho'); (rcases b with _ | _); (all_goals (first | (obtain ⟨hc0, hr0⟩ := hfl rfl; clear hfl htr) | (obtain ⟨hc1, hlt⟩ := htr rfl; clear hfl htr))); (all_goals (try dsimp only))))
  refine wpAny_call ?_
  walk_at "my enter"
  k_steps
  · (rename News _ _ _ _ => nE)
    exact hret _ (Led w f ⟨_, _, _, _, _, _, _, _, _, _, _, _, _, _, _⟩) _ _ (by k_asm) nE (ch_none hI (by dsimp only; omega) hI' rfl hc0 hr0)
  · (rename News _ _ _ _ => nE)
    exact hret _ (Led w f ⟨_, _, _, _, _, _, _, _, _, _, _, _, _, _, _⟩) _ _ (by k_asm) nE (ch_next hI (by dsimp only; omega) hI' rfl hc1)
  · (rename News _ _ _ _ => nE)
    exact hret _ (Led w f ⟨_, _, _, _, _, _, _, _, _, _, _, _, _, _, _⟩) _ _ (by k_asm) nE (ch_here hI (by dsimp only; omega))
end

section
open PySem.Builtin PySem.Builtin.Str PySem.StrLaws
/-- what a value answers to «sign in it», where the entries ex stand on the ledger -/
def HasIn (w : World) (cv : Value) (ex : List (Addr × Obj)) (mem : Nat → Bool) : Prop :=
  ∀ (A : Around) (E : Value → Shared → Prop) (Q : Value → Shared → Prop) (s : Shared) (h₀ : Heap) (L : Addr) (news : List (Addr × Obj)) (c : Nat) (t : Tok), News h₀ L s.heap news → (∀ p ∈ ex, p ∈ news) → Q (.bool (mem c)) s →
    wpAny (model (RowW.prog (OpenRow.toRowW (OpenLaw.row PySem.Challenge.rw_ru0003_02))) w) A (compareOp .In (.str ⟨#[c]⟩ t) cv) Q E s
theorem hasIn_str (w : World) (x : Str) (t : Tok) : HasIn w (.str x t) [] (fun c => decide (c ∈ x.cps.toList)) := by
  intro A E Q s h₀ L news c t' N hs h
  refine PyProof.Rows.in_str ?_
  rw [found_one]
  exact h
theorem hasIn_list (w : World) (l : Addr) (vs : List Value) (n : Nat) (ys : List Str) (hi : StrsAre vs ys) : HasIn w (.ref l) [(l, listOf vs.toArray n)] (fun c => ys.any (· == ⟨#[c]⟩)) := by
  intro A E Q s h₀ L news c t' N hs h
  exact in_list_strs (News.isList N (hs _ (.head _))) hi h
/-- Con, where the caller's other entries hold the entries ex -/
def ConE (w : World) (f : Addr) (D U : Nat) (ex : List (Addr × Obj)) (led : List (Addr × Obj)) (args : List Value) (Post : Value → List (Addr × Obj) → Prop) : Prop :=
  ∀ (mean : ExcName → Option Value) (mg mb : Str → Option Value) (dp un : Nat) (gd : Option (List Code)) (cn : Str) (cs : Scope) (a : Addr) (ccd : Value) (cl : List (Str × Addr)) (outer : List Env) (A₀ : Around) (base h₀ : Heap) (L : Addr) (m : Str → Option Value) (own : List (Addr × Obj)) (s : Shared) (Q E : Value → Shared → Prop),
    (∀ p ∈ ex, p ∈ own) → Below A₀ base outer h₀ → Fr h₀ L s.heap m → (hd.heap_39 w.params).In h₀ → News h₀ L s.heap (led ++ own) → Top hd.view_39 (looseW hd.view_39 [Str.ofString "HTMLUnicodeInputStream", Str.ofString "_law_SIGNS"]) mean mg mb h₀ → cs.kind = .function →
    OwnOff own (led.map (·.1)) → dp + D < recursionLimit → un + U < cLine →
    (∀ r led' h' tk', Fr h₀ L h' m → News h₀ L h' (led' ++ own) → Post r led' → Q r { s with heap := h', toks := tk' }) →
    wpAny (model (RowW.prog (OpenRow.toRowW (OpenLaw.row PySem.Challenge.rw_ru0003_02))) w) (ktrTop dp un gd cn cs L a ccd cl outer) (call (.ref f) args) Q E s
theorem con_useE {w : World} {f : Addr} {D U : Nat} {ex led : List (Addr × Obj)} {args : List Value} {Post : Value → List (Addr × Obj) → Prop} {own : List (Addr × Obj)}
    {mean : ExcName → Option Value} {mg mb : Str → Option Value} {dp un : Nat} {gd : Option (List Code)} {cn : Str} {cs : Scope} {a : Addr} {ccd : Value} {cl : List (Str × Addr)} {outer : List Env} {A₀ : Around} {base h₀ : Heap} {L : Addr} {m : Str → Option Value} {s : Shared} {Q E : Value → Shared → Prop}
    (N : News h₀ L s.heap (led ++ own)) (C : ConE w f D U ex led args Post) (hex : ∀ p ∈ ex, p ∈ own) (B : Below A₀ base outer h₀) (F : Fr h₀ L s.heap m) (X : (hd.heap_39 w.params).In h₀) (T : Top hd.view_39 (looseW hd.view_39 [Str.ofString "HTMLUnicodeInputStream", Str.ofString "_law_SIGNS"]) mean mg mb h₀) (hk : cs.kind = .function)
    (hoff : OwnOff own (led.map (·.1))) (hd : dp + D < recursionLimit) (hu : un + U < cLine)
    (ret : ∀ r led' h' tk', Post r led' → Fr h₀ L h' m → News h₀ L h' (led' ++ own) → Q r { s with heap := h', toks := tk' }) :
    wpAny (model (RowW.prog (OpenRow.toRowW (OpenLaw.row PySem.Challenge.rw_ru0003_02))) w) (ktrTop dp un gd cn cs L a ccd cl outer) (call (.ref f) args) Q E s :=
  C mean mg mb dp un gd cn cs a ccd cl outer A₀ base h₀ L m own s Q E hex B F X N T hk hoff hd hu fun r led' h' tk' F' N' p => ret r led' h' tk' p F' N'

def flat (xs : List Str) : List Nat := (xs.map fun x => x.cps.toList).flatten
theorem flat_nil : flat [] = [] := rfl
theorem flat_snoc (xs : List Str) (x : Str) : flat (xs ++ [x]) = flat xs ++ x.cps.toList := by simp [flat]
theorem flat_sum (xs : List Str) : (xs.map (·.length)).sum = (flat xs).length := by
  induction xs with
  | nil => rfl
  | cons x r ih => simp only [flat, List.map_cons, List.sum_cons, List.flatten_cons, List.length_append] at *; rw [ih, len_list]
theorem join_flat : ∀ (xs : List Str), (Txt.join (Str.ofString "") xs).cps.toList = flat xs := by
  have e0 : Str.ofString "" = ⟨#[]⟩ := by decide +kernel
  have key : ∀ xs : List Str, (Str.join (Str.ofString "") xs).cps.toList = flat xs := by
    intro xs
    induction xs with
    | nil => rfl
    | cons x r ih =>
      cases r with
      | nil => simp [flat, Str.join]
      | cons y r =>
        show (x ++ Str.ofString "" ++ Str.join (Str.ofString "") (y :: r)).cps.toList = _
        rw [Str.cps_append, Array.toList_append, ih, Str.cps_append, Array.toList_append, e0]
        simp [flat]
  intro xs
  show (Builtin.Str.glued (Str.ofString "") xs).cps.toList = _
  rw [glued_eq_join]
  exact key xs

/-- the run at a place in a chunk -/
structure RunTo (P : Nat → Bool) (l : List Nat) (o e : Nat) : Prop where
  h1 : o ≤ e
  h2 : e ≤ l.length
  h3 : ∀ i, o ≤ i → i < e → P (l.getD i 0) = true
theorem run_split {P : Nat → Bool} {l R : List Nat} {o e : Nat} (h : RunTo P l o e) (hend : e = l.length ∨ P (l.getD e 0) = false) :
    (l.drop o ++ R).takeWhile P = (l.drop o).take (e - o) ++ (if e = l.length then R.takeWhile P else []) ∧ (l.drop o ++ R).dropWhile P = if e = l.length then R.dropWhile P else l.drop e ++ R := by
  obtain ⟨h1, h2, h3⟩ := h
  have hall : ∀ x ∈ (l.drop o).take (e - o), P x = true := by
    intro x hx
    obtain ⟨i, hi⟩ := List.getElem?_of_mem hx
    have hlt : i < e - o := by
      have := (List.getElem?_eq_some_iff.mp hi).1
      rw [List.length_take] at this; omega
    rw [List.getElem?_take_of_lt hlt, List.getElem?_drop] at hi
    have := h3 (o + i) (by omega) (by omega)
    rw [List.getD_eq_getElem?_getD, hi] at this
    exact this
  have hs : l.drop o = (l.drop o).take (e - o) ++ l.drop e := by
    conv => lhs; rw [← List.take_append_drop (e - o) (l.drop o)]
    rw [List.drop_drop]
    congr 2; omega
  have hT : ∀ a b : List Nat, (∀ x ∈ a, P x = true) → (a ++ b).takeWhile P = a ++ b.takeWhile P := by
    intro a b ha
    induction a with
    | nil => rfl
    | cons x a ih => rw [List.cons_append, List.takeWhile_cons_of_pos (ha x (.head _)), ih fun y hy => ha y (.tail _ hy), List.cons_append]
  have hD : ∀ a b : List Nat, (∀ x ∈ a, P x = true) → (a ++ b).dropWhile P = b.dropWhile P := by
    intro a b ha
    induction a with
    | nil => rfl
    | cons x a ih => rw [List.cons_append, List.dropWhile_cons_of_pos (ha x (.head _)), ih fun y hy => ha y (.tail _ hy)]
  by_cases he : e = l.length
  · rw [if_pos he, if_pos he]
    have hd : l.drop e = [] := List.drop_eq_nil_of_le (by omega)
    rw [hd, List.append_nil] at hs
    rw [← hs] at hall ⊢
    exact ⟨hT _ _ hall, hD _ _ hall⟩
  · rw [if_neg he, if_neg he]
    have hP := hend.resolve_left he
    have hlt : e < l.length := by omega
    have hc := List.drop_eq_getElem_cons hlt
    rw [List.getD_eq_getElem?_getD, List.getElem?_eq_getElem hlt, Option.getD_some] at hP
    conv => lhs; lhs; rw [hs]
    conv => rhs; lhs; rw [hs]
    rw [List.append_assoc, hT _ _ hall, hD _ _ hall, hc, List.cons_append, List.takeWhile_cons_of_neg (by rw [hP]; exact Bool.false_ne_true), List.dropWhile_cons_of_neg (by rw [hP]; exact Bool.false_ne_true)]
    exact ⟨rfl, rfl⟩
theorem item_at {x : Str} {i : Int} (h0 : 0 ≤ i) (h1 : i < x.length) : (Txt.charAt x i).getD 0 = x.cps.toList.getD i.toNat 0 := by
  unfold Txt.charAt
  rw [seqIndex_nonneg h0 h1]
  show (x.cps[i.toNat]?).getD 0 = _
  rw [List.getD_eq_getElem?_getD, Array.getElem?_toList]
theorem perm_rv {A own : List (Addr × Obj)} {x : Addr × Obj} : ∀ p ∈ (A ++ [x]) ++ own, p ∈ x :: (A ++ own) := by
  intro p hp
  simp only [List.mem_append, List.mem_cons, List.not_mem_nil, or_false] at hp ⊢
  rcases hp with (h | h) | h
  · exact .inr (.inl h)
  · exact .inl h
  · exact .inr (.inr h)
theorem run_step {P : Nat → Bool} {l : List Nat} {o : Nat} {e : Int} (he : 0 ≤ e) (h : RunTo P l o e.toNat) (hlt : e < l.length) (hP : P (l.getD e.toNat 0) = true) : RunTo P l o (e + 1).toNat := by
  have e1 : (e + 1).toNat = e.toNat + 1 := by omega
  have h1 := h.h1
  rw [e1]
  refine ⟨by omega, by omega, fun i hi1 hi2 => ?_⟩
  by_cases hi : i = e.toNat
  · rw [hi]; exact hP
  · exact h.h3 i hi1 (by omega)
theorem run_start {P : Nat → Bool} {l : List Nat} {o : Nat} (h : o ≤ l.length) : RunTo P l o o := ⟨Nat.le_refl _, h, fun i h1 h2 => by omega⟩
def UntilPost (w : World) (f : Fx) (c : St) (P : Nat → Bool) (r : Value) (led' : List (Addr × Obj)) : Prop :=
  ∃ (x : Str) (t : Tok) (c' : St) (pre' : List Nat), r = .str x t ∧ x.cps.toList = (remT f c).takeWhile P ∧ led' = Led w f c' ∧ Inv f c' pre' ∧ remT f c' = (remT f c).dropWhile P
structure RvAt (f : Fx) (rl : Addr) : Prop where
  h1 : @LT.lt Nat _ f.q rl
  h2 : @LT.lt Nat _ f.dq rl
  h3 : @LT.lt Nat _ f.er rl
  h4 : @LT.lt Nat _ f.x rl
  h5 : @LT.lt Nat _ f.d rl
  h6 : @LT.lt Nat _ f.mo rl
structure UB where
  c : St
  vs : List Value
  n : Nat
/-- what holds between the turns -/
structure PU (f : Fx) (c₀ : St) (P : Nat → Bool) (z : UB) : Prop where
  hI : ∃ pre', Inv f z.c pre'
  hx : ∃ xs, StrsAre z.vs xs ∧ flat xs ++ (remT f z.c).takeWhile P = (remT f c₀).takeWhile P
  hd : (remT f z.c).dropWhile P = (remT f c₀).dropWhile P
  hn : z.vs.length + (restl f z.c).length ≤ 100
/-- what holds behind the loop -/
structure PV (f : Fx) (c₀ : St) (P : Nat → Bool) (z : UB) : Prop where
  hI : ∃ pre', Inv f z.c pre'
  hx : ∃ xs, StrsAre z.vs xs ∧ flat xs = (remT f c₀).takeWhile P
  hd : remT f z.c = (remT f c₀).dropWhile P
theorem off_rv {f : Fx} {rl : Addr} {o : Obj} {own : List (Addr × Obj)} (hrl : RvAt f rl) (h : OwnOff own [f.q, f.dq, f.er, f.x, f.d, f.mo]) : OwnOff ((rl, o) :: own) [f.q, f.dq, f.er, f.x, f.d, f.mo] := by
  obtain ⟨h1, h2, h3, h4, h5, h6⟩ := hrl
  intro p hp b hb
  rcases List.mem_cons.mp hp with rfl | hp
  · simp only [List.mem_cons, List.not_mem_nil, or_false] at hb
    show @Ne Nat rl b
    rcases hb with rfl | rfl | rfl | rfl | rfl | rfl <;> omega
  · exact h p hp b hb
theorem rem_next {f : Fx} {c c' : St} {pre : List Nat} (hI : Inv f c pre) (hI' : Inv f c' (pre ++ c.chunk.cps.toList)) (h0 : c'.off = 0) : remT f c' = mend (restl f c) := by
  have a := hI.hT
  have b := hI'.hT
  rw [a, List.append_assoc (pre ++ _)] at b
  have := List.append_cancel_left b
  show _ ++ _ = _
  rw [h0]
  exact this.symm
theorem strs_one {vs : List Value} {xs : List Str} (h : StrsAre vs xs) (x : Str) (t : Tok) : StrsAre (vs ++ [.str x t]) (xs ++ [x]) := h.append' (.cons _ _ .nil)
section
variable {f : Fx} {c₀ c : St} {P : Nat → Bool} {pre : List Nat} {vs : List Value} {n : Nat} {e : Int}
theorem pv_stop (hI : Inv f c pre) (hU : PU f c₀ P ⟨c, vs, n⟩) (hrun : RunTo P c.chunk.cps.toList c.off.toNat e.toNat) (hend : e = c.size ∨ P (c.chunk.cps.toList.getD e.toNat 0) = false) (h1 : e = c.off) (h2 : c.off ≠ c.size) : PV f c₀ P ⟨c, vs, n⟩ := by
  obtain ⟨hi, ⟨xs, hxs, hx⟩, hd, hn⟩ := hU
  have hs := hI.hsz
  have h0 := hI.ho0
  have hl := len_list c.chunk
  have k := run_split (R := mend (restl f c)) hrun (hend.imp (fun h => absurd (h1.symm.trans h) h2) id)
  have hne : ¬ e.toNat = c.chunk.cps.toList.length := by omega
  rw [if_neg hne, if_neg hne] at k
  have hz : e.toNat - c.off.toNat = 0 := by omega
  rw [hz, List.take_zero, List.nil_append] at k
  dsimp only at hx hd
  have kt : (remT f c).takeWhile P = [] := k.1
  have kd : (remT f c).dropWhile P = remT f c := by
    have := k.2
    rw [h1] at this
    exact this
  rw [kt, List.append_nil] at hx
  rw [kd] at hd
  exact ⟨hi, ⟨xs, hxs, hx⟩, hd⟩
theorem pv_cut (hI : Inv f c pre) (hU : PU f c₀ P ⟨c, vs, n⟩) (hrun : RunTo P c.chunk.cps.toList c.off.toNat e.toNat) (hend : e = c.size ∨ P (c.chunk.cps.toList.getD e.toNat 0) = false) (h0 : c.off ≤ e) (h1 : e ≤ c.size) (h2 : e ≠ c.size) {t tof : Tok} {n' : Nat} :
    PV f c₀ P ⟨{ c with off := e, tof := tof }, vs ++ [.str (Txt.slice c.chunk (some c.off) (some e)) t], n'⟩ := by
  obtain ⟨hi, ⟨xs, hxs, hx⟩, hd, hn⟩ := hU
  have hs := hI.hsz
  have ho := hI.ho0
  have hl := len_list c.chunk
  have k := run_split (R := mend (restl f c)) hrun (hend.imp (fun h => absurd h h2) id)
  have hne : ¬ e.toNat = c.chunk.cps.toList.length := by omega
  rw [if_neg hne, if_neg hne, List.append_nil] at k
  dsimp only at hx hd
  have kt : (remT f c).takeWhile P = _ := k.1
  have kd : (remT f c).dropWhile P = _ := k.2
  refine ⟨⟨pre, hI.hbuf, hI.hp0, hI.hp1, hI.hsz, by show 0 ≤ e; omega, h1, hI.hpl, hI.hpc, hI.hT, hI.herr⟩, ⟨_, strs_one hxs _ _, ?_⟩, ?_⟩
  · rw [flat_snoc, slice_mid ho h0 (by omega), ← hx, kt]
    congr 2; omega
  · rw [← hd, kd]
theorem pu_more {c' : St} (hI : Inv f c pre) (hU : PU f c₀ P ⟨c, vs, n⟩) (hrun : RunTo P c.chunk.cps.toList c.off.toNat e.toNat) (h1 : e = c.size) (hI' : Inv f c' (pre ++ c.chunk.cps.toList)) (hz : c'.off = 0) (hlt : (restl f c').length < (restl f c).length) {t : Tok} {n' : Nat} :
    PU f c₀ P ⟨c', vs ++ [.str (Txt.slice c.chunk (some c.off) none) t], n'⟩ := by
  obtain ⟨hi, ⟨xs, hxs, hx⟩, hd, hn⟩ := hU
  have hs := hI.hsz
  have ho := hI.ho0
  have ho1 := hI.ho1
  have hl := len_list c.chunk
  have he : e.toNat = c.chunk.cps.toList.length := by omega
  have k := run_split (R := mend (restl f c)) hrun (.inl he)
  rw [if_pos he, if_pos he] at k
  dsimp only at hx hd hn
  have kt : (remT f c).takeWhile P = _ := k.1
  have kd : (remT f c).dropWhile P = _ := k.2
  have hr := rem_next hI hI' hz
  refine ⟨⟨_, hI'⟩, ⟨_, strs_one hxs _ _, ?_⟩, ?_, ?_⟩
  · rw [flat_snoc, slice_from ho (by omega), hr, ← hx, kt, ← List.append_assoc]
    congr 2
    rw [List.take_of_length_le]
    rw [List.length_drop]; omega
  · dsimp only
    rw [hr, ← kd, hd]
  · dsimp only
    rw [List.length_append, List.length_cons, List.length_nil]; omega
theorem pv_over {c' : St} (hI : Inv f c pre) (hU : PU f c₀ P ⟨c, vs, n⟩) (hrun : RunTo P c.chunk.cps.toList c.off.toNat e.toNat) (h1 : e = c.size) (hI' : Inv f c' (pre ++ c.chunk.cps.toList)) (hz : c'.off = 0) (hc0 : c'.chunk.cps.toList = []) (hr0 : restl f c' = []) {t : Tok} {n' : Nat} :
    PV f c₀ P ⟨c', vs ++ [.str (Txt.slice c.chunk (some c.off) none) t], n'⟩ := by
  obtain ⟨hi, ⟨xs, hxs, hx⟩, hd, hn⟩ := hU
  have hs := hI.hsz
  have ho := hI.ho0
  have ho1 := hI.ho1
  have hl := len_list c.chunk
  have he : e.toNat = c.chunk.cps.toList.length := by omega
  have k := run_split (R := mend (restl f c)) hrun (.inl he)
  rw [if_pos he, if_pos he] at k
  dsimp only at hx hd
  have kt : (remT f c).takeWhile P = _ := k.1
  have kd : (remT f c).dropWhile P = _ := k.2
  have hr := rem_next hI hI' hz
  have hr' : remT f c' = [] := by
    show _ ++ _ = _
    rw [hc0, hr0]; simp [mendFrom]
  have hm : mend (restl f c) = [] := hr.symm.trans hr'
  rw [hm, List.takeWhile_nil, List.append_nil] at kt
  rw [hm, List.dropWhile_nil] at kd
  refine ⟨⟨_, hI'⟩, ⟨_, strs_one hxs _ _, ?_⟩, ?_⟩
  · rw [flat_snoc, slice_from ho (by omega), ← hx, kt]
    congr 1
    rw [List.take_of_length_le]
    rw [List.length_drop]; omega
  · dsimp only
    rw [hr', ← hd, kd]
end
theorem rest_le {f : Fx} {c : St} {pre : List Nat} (hI : Inv f c pre) (hr : GoodRaw f) : ([] : List Value).length + (restl f c).length ≤ 100 := by
  have h1 := len_list f.raw
  have h2 := hr.hlen
  have h3 : (bufl c.buf).length ≤ 1 := by
    rcases hI.hbuf with h | ⟨t, h⟩
    · rw [h]; simp [bufl]
    · rw [h, bufl_cr]; simp
  show 0 + (_ ++ _ : List Nat).length ≤ 100
  rw [List.length_append, List.length_drop]
  omega
theorem rem_le {f : Fx} {c : St} {pre : List Nat} (hI : Inv f c pre) (hr : GoodRaw f) : (remT f c).length ≤ 40 := by
  have h := congrArg List.length (rem_text hI)
  have h1 : (mend f.raw.cps.toList).length ≤ f.raw.cps.toList.length := mend_le _ _
  have h2 := len_list f.raw
  have h4 := hr.hlen
  rw [List.length_append] at h
  omega
theorem perm_rv2 {A own : List (Addr × Obj)} {x : Addr × Obj} : ∀ p ∈ A ++ own, p ∈ (A ++ [x]) ++ own := by
  intro p hp
  simp only [List.mem_append, List.mem_cons, List.not_mem_nil, or_false] at hp ⊢
  rcases hp with h | h
  · exact .inl (.inl h)
  · exact .inr h
end

section
local macro_rules | `(tactic| walk_at "my pad 0") => `(tactic| skip)
theorem fresh_CUntil : True := by
  w_top off
  k_with_none
  trivial
local macro_rules | `(tactic| walk_at "compareOp In") => `(tactic| k_extra "compareOp In")
set_option maxRecDepth 100000 in
set_option maxHeartbeats 8000000 in
theorem con_until (w : World) (f : Fx) (hf : f.Ok) (hr : GoodRaw f) (c : St) (pre : List Nat) (hI : Inv f c pre) (cv : Value) (ex : List (Addr × Obj)) (mem : Nat → Bool) (hin : HasIn w cv ex mem) (b : Bool) :
    ConE w 128 6 40 ex (Led w f c) [.ref f.q, cv, .bool b] (UntilPost w f c (fun ch => mem ch == b)) := by
  unfold ConE
  k_fill
  intro mean mg mb dp un gd cn cs a ccd cl outer A₀ base h₀ L m own s Q E hex B F X N T hk hoff hd hu hret
  obtain ⟨hf1, hf2, hf3, hf4, hf5, hf6⟩ := id hf
  simp only [List.cons_append, List.nil_append] at N
  simp only [List.map_cons, List.map_nil] at hoff
  k_with_none
  refine wpAny_call ?_
  walk_at "my enter"
  (rename Fr _ _ _ _ => lF')
  refine my_cutk 1 (σ := Addr) (fun rl => Led w f c ++ [(rl, listOf ([] : List Value).toArray 0)]) own (fun rl => [("rv", .ref rl)]) [] (fun rl => RvAt f rl ∧ ∀ p ∈ own, p.1 < rl) lF' ?_ ?_
  · simp only [List.take_succ_cons, List.take_zero]
    (try k_fold)
    k_steps
    dsimp only [CutPost]
    (rename News _ _ _ _ => nE)
    (rename (f.q < _) ∧ _ => l1)
    exact cut_end _ (by k_asm) (cb_drop nE perm_rv) (by kst_all) (by walk_at "my cutsame") ⟨⟨by omega, by omega, by omega, by omega, by omega, by omega⟩, ktn_ltOf l1.2.2.2.2.2.2⟩
  · rintro rl u h tk hle ⟨hrl, hrlo⟩ F₁ N₁
    have hrl9 := hrl
    obtain ⟨hr1, hr2, hr3, hr4, hr5, hr6⟩ := hrl
    simp only [List.drop_succ_cons, List.drop_zero]
    refine my_cutk 1 (σ := UB) (fun z => Led w f z.c ++ [(rl, listOf z.vs.toArray z.n)]) own (fun _ => []) ["end"] (fun z => PV f c (fun ch => mem ch == b) z) F₁ ?_ ?_
    · simp only [List.take_succ_cons, List.take_zero]
      refine wpAny_execs_cons ?_
      refine ksw_while (σ := UB) (fun z => (Led w f z.c ++ [(rl, listOf z.vs.toArray z.n)]) ++ own) (fun _ => []) (fun _ => True) ["end"] (fun z => PU f c (fun ch => mem ch == b) z) (fun z => (restl f z.c).length) ⟨c, [], 0⟩ F₁ N₁ trivial (fun _ hp => nomatch hp) ⟨⟨pre, hI⟩, ⟨[], .nil, by simp [flat]⟩, rfl, rest_le hI hr⟩ ?_ (by with_unfolding_all passes_own)
      · rintro ⟨c', vs, nn⟩ u h tk _ hP F₂ N₂
        have hU := hP
        obtain ⟨⟨pre', hI'⟩, -, -, hn1⟩ := hP
        dsimp only at hI' hn1
        obtain ⟨chunk, tch, size, tsz, off, tof, errs, ep, pl, tpl, pc, tpc, buf, place, tpp⟩ := c'
        simp only [List.cons_append, List.nil_append] at N₂
        dsimp only at N₂ F₂
        have hcl := chunk_le hI' hr
        have hsz := hI'.hsz
        have ho0 := hI'.ho0
        have ho1 := hI'.ho1
        dsimp only at hcl hsz ho0 ho1
        have hsz63 : (chunk.length : Int) < 9223372036854775808 := by omega
        iterate 4 walk1
        refine my_cutk 1 (σ := Unit) (fun _ => Led w f ⟨chunk, tch, size, tsz, off, tof, errs, ep, pl, tpl, pc, tpc, buf, place, tpp⟩ ++ [(rl, listOf vs.toArray nn)]) own (fun _ => [("end", .int off tof)]) [] (fun _ => True) F₂ ?_ ?_
        · simp only [List.take_succ_cons, List.take_zero]
          (try k_fold)
          k_steps
          dsimp only [CutPost]
          (rename News _ _ _ _ => nE)
          exact cut_end () (by k_asm) nE (by kst_all) (by walk_at "my cutsame") trivial
        · rintro - u h tk hle - F₃ N₃
          simp only [List.cons_append, List.nil_append] at N₃
          simp only [List.drop_succ_cons, List.drop_zero]
          refine my_cutk 1 (σ := Int × Tok) (fun _ => Led w f ⟨chunk, tch, size, tsz, off, tof, errs, ep, pl, tpl, pc, tpc, buf, place, tpp⟩ ++ [(rl, listOf vs.toArray nn)]) own (fun z => [("end", .int z.1 z.2)]) [] (fun z => off ≤ z.1 ∧ z.1 ≤ size ∧ RunTo (fun ch => mem ch == b) chunk.cps.toList off.toNat z.1.toNat ∧ (z.1 = size ∨ (mem (chunk.cps.toList.getD z.1.toNat 0) == b) = false)) F₃ ?_ ?_
          · simp only [List.take_succ_cons, List.take_zero]
            refine wpAny_execs_cons ?_
            refine ksw_while (σ := Int × Tok) (fun _ => (Led w f ⟨chunk, tch, size, tsz, off, tof, errs, ep, pl, tpl, pc, tpc, buf, place, tpp⟩ ++ [(rl, listOf vs.toArray nn)]) ++ own) (fun z => [("end", .int z.1 z.2)]) (fun _ => True) [] (fun z => off ≤ z.1 ∧ z.1 ≤ size ∧ RunTo (fun ch => mem ch == b) chunk.cps.toList off.toNat z.1.toNat) (fun z => (size - z.1).toNat) ⟨off, tof⟩ F₃ N₃ trivial (by kst_all) ⟨Int.le_refl _, ho1, run_start (by have := len_list chunk; omega)⟩ ?_ (by with_unfolding_all passes_own)
            · rintro ⟨e, te⟩ u h tk _ ⟨he0, he1, hrun⟩ F₄ N₄
              dsimp only at he0 he1 hrun
              simp only [List.cons_append, List.nil_append] at N₄
              k_with "compareOp In" => k_dflt ((refine' hin _ _ _ _ _ _ _ ((Txt.charAt chunk e).getD 0) _ ?N ?hs ?_); (case N => k_asm); (case hs => exact fun p hp => List.mem_cons_of_mem _ (List.mem_cons_of_mem _ (List.mem_cons_of_mem _ (List.mem_cons_of_mem _ (List.mem_cons_of_mem _ (List.mem_cons_of_mem _ (List.mem_cons_of_mem _ (hex p hp)))))))))
              have hlen := len_list chunk
              (try dsimp only at F₄)
              (try k_fold)
              k_steps
              · (rename News _ _ _ _ => nE)
                (rename e ≠ size => hne)
                (rename (mem _ == b) = true => hm)
                rw [item_at (by omega) (by omega)] at hm
                exact ksw_end (e + 1, _) (by k_asm) nE (fun _ h => h) trivial (by kst_all) (by walk_at "my cutsame") ⟨by dsimp only; omega, by dsimp only; omega, run_step (by omega) hrun (by omega) hm⟩ (by dsimp only; omega)
              · dsimp only [CutPost]
                (rename News _ _ _ _ => nE)
                (rename e ≠ size => hne)
                (rename (mem _ == b) = false => hm)
                rw [item_at (by omega) (by omega)] at hm
                exact cut_end (e, te) (by k_asm) nE (by kst_all) (by walk_at "my cutsame") ⟨he0, he1, hrun, .inr hm⟩
              · dsimp only [CutPost]
                (rename News _ _ _ _ => nE)
                (rename e = size => hne)
                exact cut_end (e, te) (by k_asm) nE (by kst_all) (by walk_at "my cutsame") ⟨he0, he1, hrun, .inl hne⟩
          · rintro ⟨e, te⟩ u h tk hle ⟨he0, he1, hrun, hend⟩ F₄ N₄
            dsimp only at he0 he1 hrun hend
            simp only [List.cons_append, List.nil_append] at N₄
            (try dsimp only at F₄)
            simp only [List.drop_succ_cons, List.drop_zero]
            have hvl : vs.length ≤ 100 := by omega
            k_with "call ref" => k_dflt (walk_at "my fold"; (rename News _ _ _ (Led _ _ _ ++ _) => nL); (refine' con_useN nL (con_rd0 w f hf hr _ pre' hI') ?B ?F ?X ?T ?hk (off_rv hrl9 hoff) ?hd ?hu ?_); walk_at "my use"; (intro r' led' h' tk' hP' F' N'; obtain ⟨b2, c', hr', hl', hI2, ho', hfl, htr⟩ := hP'; obtain ⟨chunk', tch', size', tsz', off', tof', errs', ep', pl', tpl', pc', tpc', buf', place', tpp'⟩ := c'; subst hr'; subst hl'; simp only [List.cons_append, List.nil_append] at N'; (try dsimp only at N' ho' hfl htr); (subst ho'); (rcases b2 with _ | _); (all_goals (first | (obtain ⟨hc0, hr0⟩ := hfl rfl; clear hfl htr) | (obtain ⟨hc1, hlt⟩ := htr rfl; clear hfl htr))); (all_goals (try dsimp only))))
            (try k_fold)
            k_steps
            · dsimp only [CutPost]
              (rename News _ _ _ _ => nE)
              (rename e = off => h1)
              (rename off ≠ size => h2)
              exact cut_end ⟨⟨chunk, tch, size, tsz, off, tof, errs, ep, pl, tpl, pc, tpc, buf, place, tpp⟩, vs, nn⟩ (by k_asm) nE (fun _ hp => nomatch hp) (by walk_at "my cutsame") (pv_stop hI' hU hrun hend h1 h2)
            · dsimp only [CutPost]
              (rename News _ _ _ _ => nE)
              simp only [List.push_toArray] at nE
              (rename e = off => h1)
              (rename off = size => h2)
              exact cut_end ⟨⟨_, _, _, _, _, _, _, _, _, _, _, _, _, _, _⟩, vs ++ [_], nn + 1⟩ (by k_asm) nE (fun _ hp => nomatch hp) (by walk_at "my cutsame") (pv_over hI' hU hrun (h1.trans h2) hI2 rfl hc0 hr0)
            · (rename News _ _ _ _ => nE)
              simp only [List.push_toArray] at nE
              (rename e = off => h1)
              (rename off = size => h2)
              exact ksw_end ⟨⟨_, _, _, _, _, _, _, _, _, _, _, _, _, _, _⟩, vs ++ [_], nn + 1⟩ (by k_asm) nE (fun _ h => h) trivial (fun _ hp => nomatch hp) (by walk_at "my cutsame") (pu_more hI' hU hrun (h1.trans h2) hI2 rfl hlt) hlt
            · dsimp only [CutPost]
              (rename News _ _ _ _ => nE)
              simp only [List.push_toArray] at nE
              (rename e ≠ size => h2)
              exact cut_end ⟨⟨chunk, tch, size, tsz, e, _, errs, ep, pl, tpl, pc, tpc, buf, place, tpp⟩, vs ++ [_], nn + 1⟩ (by k_asm) nE (fun _ hp => nomatch hp) (by walk_at "my cutsame") (pv_cut hI' hU hrun hend he0 he1 h2)
            · dsimp only [CutPost]
              (rename News _ _ _ _ => nE)
              simp only [List.push_toArray] at nE
              (rename e = size => h2)
              exact cut_end ⟨⟨_, _, _, _, _, _, _, _, _, _, _, _, _, _, _⟩, vs ++ [_], nn + 1⟩ (by k_asm) nE (fun _ hp => nomatch hp) (by walk_at "my cutsame") (pv_over hI' hU hrun h2 hI2 rfl hc0 hr0)
            · (rename News _ _ _ _ => nE)
              simp only [List.push_toArray] at nE
              (rename e = size => h2)
              exact ksw_end ⟨⟨_, _, _, _, _, _, _, _, _, _, _, _, _, _, _⟩, vs ++ [_], nn + 1⟩ (by k_asm) nE (fun _ h => h) trivial (fun _ hp => nomatch hp) (by walk_at "my cutsame") (pu_more hI' hU hrun h2 hI2 rfl hlt) hlt
    · rintro ⟨c', vs, nn⟩ u h tk hle₂ hP F₂ N₂
      obtain ⟨⟨pre', hI'⟩, ⟨xs, hxs, hx1⟩, hd1⟩ := hP
      dsimp only at hI' hxs hx1 hd1
      obtain ⟨chunk, tch, size, tsz, off, tof, errs, ep, pl, tpl, pc, tpc, buf, place, tpp⟩ := c'
      simp only [List.cons_append, List.nil_append] at N₂
      (try dsimp only at N₂)
      (try dsimp only at F₂)
      simp only [List.drop_succ_cons, List.drop_zero]
      have hsum : (xs.map (·.length)).sum + xs.length * (Str.ofString "").length ≤ 16777216 := by
        have e0 : (Str.ofString "").length = 0 := by decide +kernel
        have h1 := rem_le hI hr
        have h2 := (List.takeWhile_sublist (fun ch => mem ch == b) (l := remT f c)).length_le
        rw [flat_sum, hx1, e0]
        omega
      k_with "call builtin:str.join" => k_dflt ((refine' join_list ?l ?i hsum ?_); (case l => exact News.isList (by k_asm) (by k_mem)); (case i => exact hxs); (intro t' k'; (try dsimp only)))
      (try k_fold)
      k_steps
      (rename News _ _ _ _ => nE)
      refine hret _ (Led w f ⟨chunk, tch, size, tsz, off, tof, errs, ep, pl, tpl, pc, tpc, buf, place, tpp⟩) _ _ (by k_asm) (cb_drop nE ?_) ⟨_, _, _, pre', rfl, ?_, rfl, hI', hd1⟩
      · exact perm_rv2
      · rw [join_flat, hx1]
end

section
theorem fresh_CUntil0 : True := by
  w_top off
  k_with_none
  trivial
local macro_rules | `(tactic| walk_at "compareOp In") => `(tactic| k_extra "compareOp In")
set_option maxRecDepth 100000 in
set_option maxHeartbeats 8000000 in
theorem con_until0 (w : World) (f : Fx) (hf : f.Ok) (hr : GoodRaw f) (c : St) (pre : List Nat) (hI : Inv f c pre) (cv : Value) (ex : List (Addr × Obj)) (mem : Nat → Bool) (hin : HasIn w cv ex mem) :
    ConE w 128 6 40 ex (Led w f c) [.ref f.q, cv] (UntilPost w f c (fun ch => mem ch == false)) := by
  unfold ConE
  k_fill
  intro mean mg mb dp un gd cn cs a ccd cl outer A₀ base h₀ L m own s Q E hex B F X N T hk hoff hd hu hret
  obtain ⟨hf1, hf2, hf3, hf4, hf5, hf6⟩ := id hf
  simp only [List.cons_append, List.nil_append] at N
  simp only [List.map_cons, List.map_nil] at hoff
  k_with_none
  refine wpAny_call ?_
  walk_at "my enter"
  (rename Fr _ _ _ _ => lF')
  refine my_cutk 1 (σ := Addr) (fun rl => Led w f c ++ [(rl, listOf ([] : List Value).toArray 0)]) own (fun rl => [("rv", .ref rl)]) [] (fun rl => RvAt f rl ∧ ∀ p ∈ own, p.1 < rl) lF' ?_ ?_
  · simp only [List.take_succ_cons, List.take_zero]
    (try k_fold)
    k_steps
    dsimp only [CutPost]
    (rename News _ _ _ _ => nE)
    (rename (f.q < _) ∧ _ => l1)
    exact cut_end _ (by k_asm) (cb_drop nE perm_rv) (by kst_all) (by walk_at "my cutsame") ⟨⟨by omega, by omega, by omega, by omega, by omega, by omega⟩, ktn_ltOf l1.2.2.2.2.2.2⟩
  · rintro rl u h tk hle ⟨hrl, hrlo⟩ F₁ N₁
    have hrl9 := hrl
    obtain ⟨hr1, hr2, hr3, hr4, hr5, hr6⟩ := hrl
    simp only [List.drop_succ_cons, List.drop_zero]
    refine my_cutk 1 (σ := UB) (fun z => Led w f z.c ++ [(rl, listOf z.vs.toArray z.n)]) own (fun _ => []) ["end"] (fun z => PV f c (fun ch => mem ch == false) z) F₁ ?_ ?_
    · simp only [List.take_succ_cons, List.take_zero]
      refine wpAny_execs_cons ?_
      refine ksw_while (σ := UB) (fun z => (Led w f z.c ++ [(rl, listOf z.vs.toArray z.n)]) ++ own) (fun _ => []) (fun _ => True) ["end"] (fun z => PU f c (fun ch => mem ch == false) z) (fun z => (restl f z.c).length) ⟨c, [], 0⟩ F₁ N₁ trivial (fun _ hp => nomatch hp) ⟨⟨pre, hI⟩, ⟨[], .nil, by simp [flat]⟩, rfl, rest_le hI hr⟩ ?_ (by with_unfolding_all passes_own)
      · rintro ⟨c', vs, nn⟩ u h tk _ hP F₂ N₂
        have hU := hP
        obtain ⟨⟨pre', hI'⟩, -, -, hn1⟩ := hP
        dsimp only at hI' hn1
        obtain ⟨chunk, tch, size, tsz, off, tof, errs, ep, pl, tpl, pc, tpc, buf, place, tpp⟩ := c'
        simp only [List.cons_append, List.nil_append] at N₂
        dsimp only at N₂ F₂
        have hcl := chunk_le hI' hr
        have hsz := hI'.hsz
        have ho0 := hI'.ho0
        have ho1 := hI'.ho1
        dsimp only at hcl hsz ho0 ho1
        have hsz63 : (chunk.length : Int) < 9223372036854775808 := by omega
        iterate 4 walk1
        refine my_cutk 1 (σ := Unit) (fun _ => Led w f ⟨chunk, tch, size, tsz, off, tof, errs, ep, pl, tpl, pc, tpc, buf, place, tpp⟩ ++ [(rl, listOf vs.toArray nn)]) own (fun _ => [("end", .int off tof)]) [] (fun _ => True) F₂ ?_ ?_
        · simp only [List.take_succ_cons, List.take_zero]
          (try k_fold)
          k_steps
          dsimp only [CutPost]
          (rename News _ _ _ _ => nE)
          exact cut_end () (by k_asm) nE (by kst_all) (by walk_at "my cutsame") trivial
        · rintro - u h tk hle - F₃ N₃
          simp only [List.cons_append, List.nil_append] at N₃
          simp only [List.drop_succ_cons, List.drop_zero]
          refine my_cutk 1 (σ := Int × Tok) (fun _ => Led w f ⟨chunk, tch, size, tsz, off, tof, errs, ep, pl, tpl, pc, tpc, buf, place, tpp⟩ ++ [(rl, listOf vs.toArray nn)]) own (fun z => [("end", .int z.1 z.2)]) [] (fun z => off ≤ z.1 ∧ z.1 ≤ size ∧ RunTo (fun ch => mem ch == false) chunk.cps.toList off.toNat z.1.toNat ∧ (z.1 = size ∨ (mem (chunk.cps.toList.getD z.1.toNat 0) == false) = false)) F₃ ?_ ?_
          · simp only [List.take_succ_cons, List.take_zero]
            refine wpAny_execs_cons ?_
            refine ksw_while (σ := Int × Tok) (fun _ => (Led w f ⟨chunk, tch, size, tsz, off, tof, errs, ep, pl, tpl, pc, tpc, buf, place, tpp⟩ ++ [(rl, listOf vs.toArray nn)]) ++ own) (fun z => [("end", .int z.1 z.2)]) (fun _ => True) [] (fun z => off ≤ z.1 ∧ z.1 ≤ size ∧ RunTo (fun ch => mem ch == false) chunk.cps.toList off.toNat z.1.toNat) (fun z => (size - z.1).toNat) ⟨off, tof⟩ F₃ N₃ trivial (by kst_all) ⟨Int.le_refl _, ho1, run_start (by have := len_list chunk; omega)⟩ ?_ (by with_unfolding_all passes_own)
            · rintro ⟨e, te⟩ u h tk _ ⟨he0, he1, hrun⟩ F₄ N₄
              dsimp only at he0 he1 hrun
              simp only [List.cons_append, List.nil_append] at N₄
              k_with "compareOp In" => k_dflt ((refine' hin _ _ _ _ _ _ _ ((Txt.charAt chunk e).getD 0) _ ?N ?hs ?_); (case N => k_asm); (case hs => exact fun p hp => List.mem_cons_of_mem _ (List.mem_cons_of_mem _ (List.mem_cons_of_mem _ (List.mem_cons_of_mem _ (List.mem_cons_of_mem _ (List.mem_cons_of_mem _ (List.mem_cons_of_mem _ (hex p hp)))))))))
              have hlen := len_list chunk
              (try dsimp only at F₄)
              (try k_fold)
              k_steps
              · (rename News _ _ _ _ => nE)
                (rename e ≠ size => hne)
                (rename (mem _ == false) = true => hm)
                rw [item_at (by omega) (by omega)] at hm
                exact ksw_end (e + 1, _) (by k_asm) nE (fun _ h => h) trivial (by kst_all) (by walk_at "my cutsame") ⟨by dsimp only; omega, by dsimp only; omega, run_step (by omega) hrun (by omega) hm⟩ (by dsimp only; omega)
              · dsimp only [CutPost]
                (rename News _ _ _ _ => nE)
                (rename e ≠ size => hne)
                (rename (mem _ == false) = false => hm)
                rw [item_at (by omega) (by omega)] at hm
                exact cut_end (e, te) (by k_asm) nE (by kst_all) (by walk_at "my cutsame") ⟨he0, he1, hrun, .inr hm⟩
              · dsimp only [CutPost]
                (rename News _ _ _ _ => nE)
                (rename e = size => hne)
                exact cut_end (e, te) (by k_asm) nE (by kst_all) (by walk_at "my cutsame") ⟨he0, he1, hrun, .inl hne⟩
          · rintro ⟨e, te⟩ u h tk hle ⟨he0, he1, hrun, hend⟩ F₄ N₄
            dsimp only at he0 he1 hrun hend
            simp only [List.cons_append, List.nil_append] at N₄
            (try dsimp only at F₄)
            simp only [List.drop_succ_cons, List.drop_zero]
            have hvl : vs.length ≤ 100 := by omega
            k_with "call ref" => k_dflt (walk_at "my fold"; (rename News _ _ _ (Led _ _ _ ++ _) => nL); (refine' con_useN nL (con_rd0 w f hf hr _ pre' hI') ?B ?F ?X ?T ?hk (off_rv hrl9 hoff) ?hd ?hu ?_); walk_at "my use"; (intro r' led' h' tk' hP' F' N'; obtain ⟨b2, c', hr', hl', hI2, ho', hfl, htr⟩ := hP'; obtain ⟨chunk', tch', size', tsz', off', tof', errs', ep', pl', tpl', pc', tpc', buf', place', tpp'⟩ := c'; subst hr'; subst hl'; simp only [List.cons_append, List.nil_append] at N'; (try dsimp only at N' ho' hfl htr); (subst ho'); (rcases b2 with _ | _); (all_goals (first | (obtain ⟨hc0, hr0⟩ := hfl rfl; clear hfl htr) | (obtain ⟨hc1, hlt⟩ := htr rfl; clear hfl htr))); (all_goals (try dsimp only))))
            (try k_fold)
            k_steps
            · dsimp only [CutPost]
              (rename News _ _ _ _ => nE)
              (rename e = off => h1)
              (rename off ≠ size => h2)
              exact cut_end ⟨⟨chunk, tch, size, tsz, off, tof, errs, ep, pl, tpl, pc, tpc, buf, place, tpp⟩, vs, nn⟩ (by k_asm) nE (fun _ hp => nomatch hp) (by walk_at "my cutsame") (pv_stop hI' hU hrun hend h1 h2)
            · dsimp only [CutPost]
              (rename News _ _ _ _ => nE)
              simp only [List.push_toArray] at nE
              (rename e = off => h1)
              (rename off = size => h2)
              exact cut_end ⟨⟨_, _, _, _, _, _, _, _, _, _, _, _, _, _, _⟩, vs ++ [_], nn + 1⟩ (by k_asm) nE (fun _ hp => nomatch hp) (by walk_at "my cutsame") (pv_over hI' hU hrun (h1.trans h2) hI2 rfl hc0 hr0)
            · (rename News _ _ _ _ => nE)
              simp only [List.push_toArray] at nE
              (rename e = off => h1)
              (rename off = size => h2)
              exact ksw_end ⟨⟨_, _, _, _, _, _, _, _, _, _, _, _, _, _, _⟩, vs ++ [_], nn + 1⟩ (by k_asm) nE (fun _ h => h) trivial (fun _ hp => nomatch hp) (by walk_at "my cutsame") (pu_more hI' hU hrun (h1.trans h2) hI2 rfl hlt) hlt
            · dsimp only [CutPost]
              (rename News _ _ _ _ => nE)
              simp only [List.push_toArray] at nE
              (rename e ≠ size => h2)
              exact cut_end ⟨⟨chunk, tch, size, tsz, e, _, errs, ep, pl, tpl, pc, tpc, buf, place, tpp⟩, vs ++ [_], nn + 1⟩ (by k_asm) nE (fun _ hp => nomatch hp) (by walk_at "my cutsame") (pv_cut hI' hU hrun hend he0 he1 h2)
            · dsimp only [CutPost]
              (rename News _ _ _ _ => nE)
              simp only [List.push_toArray] at nE
              (rename e = size => h2)
              exact cut_end ⟨⟨_, _, _, _, _, _, _, _, _, _, _, _, _, _, _⟩, vs ++ [_], nn + 1⟩ (by k_asm) nE (fun _ hp => nomatch hp) (by walk_at "my cutsame") (pv_over hI' hU hrun h2 hI2 rfl hc0 hr0)
            · (rename News _ _ _ _ => nE)
              simp only [List.push_toArray] at nE
              (rename e = size => h2)
              exact ksw_end ⟨⟨_, _, _, _, _, _, _, _, _, _, _, _, _, _, _⟩, vs ++ [_], nn + 1⟩ (by k_asm) nE (fun _ h => h) trivial (fun _ hp => nomatch hp) (by walk_at "my cutsame") (pu_more hI' hU hrun h2 hI2 rfl hlt) hlt
    · rintro ⟨c', vs, nn⟩ u h tk hle₂ hP F₂ N₂
      obtain ⟨⟨pre', hI'⟩, ⟨xs, hxs, hx1⟩, hd1⟩ := hP
      dsimp only at hI' hxs hx1 hd1
      obtain ⟨chunk, tch, size, tsz, off, tof, errs, ep, pl, tpl, pc, tpc, buf, place, tpp⟩ := c'
      simp only [List.cons_append, List.nil_append] at N₂
      (try dsimp only at N₂)
      (try dsimp only at F₂)
      simp only [List.drop_succ_cons, List.drop_zero]
      have hsum : (xs.map (·.length)).sum + xs.length * (Str.ofString "").length ≤ 16777216 := by
        have e0 : (Str.ofString "").length = 0 := by decide +kernel
        have h1 := rem_le hI hr
        have h2 := (List.takeWhile_sublist (fun ch => mem ch == false) (l := remT f c)).length_le
        rw [flat_sum, hx1, e0]
        omega
      k_with "call builtin:str.join" => k_dflt ((refine' join_list ?l ?i hsum ?_); (case l => exact News.isList (by k_asm) (by k_mem)); (case i => exact hxs); (intro t' k'; (try dsimp only)))
      (try k_fold)
      k_steps
      (rename News _ _ _ _ => nE)
      refine hret _ (Led w f ⟨chunk, tch, size, tsz, off, tof, errs, ep, pl, tpl, pc, tpc, buf, place, tpp⟩) _ _ (by k_asm) (cb_drop nE ?_) ⟨_, _, _, pre', rfl, ?_, rfl, hI', hd1⟩
      · exact perm_rv2
      · rw [join_flat, hx1]
end

section
theorem one_beq {n c : Nat} {x : Str} (hx : x = ⟨#[c]⟩) : ((⟨#[n]⟩ : Str) == x) = decide (n = c) := by
  subst hx
  rw [Bool.eq_iff_iff, beq_iff_eq, decide_eq_true_eq]
  constructor
  · intro h; simpa using h
  · intro h; rw [h]
theorem cr_is : Str.ofString "\r" = ⟨#[13]⟩ := by decide +kernel
theorem lf_is : Str.ofString "\n" = ⟨#[10]⟩ := by decide +kernel
theorem list_inj {x y : Str} (h : x.cps.toList = y.cps.toList) : x = y := PySem.Str.ext' (Array.toList_inj.mp h)
theorem last_one {pre : List Nat} {n : Nat} : (⟨#[n]⟩ : Str).cps.toList = (pre ++ [n]).getLast?.toList := by
  rw [List.getLast?_concat]; rfl
theorem mend_lf_drop : ∀ (pre : List Nat) (p : Bool), pre.getLast? = some 13 → mendFrom p (pre ++ [10]) = mendFrom p pre
  | [], _, h => by simp at h
  | [c], p, h => by
    have hc : c = 13 := by simpa using h
    subst hc
    simp [mendFrom]
  | c :: d :: r, p, h => by
    have h' : (d :: r).getLast? = some 13 := by simpa using h
    have ih := fun q => mend_lf_drop (d :: r) q h'
    have e : ∀ q (l : List Nat), mendFrom q (c :: l) = if c = 13 then 10 :: mendFrom true l else if c = 10 ∧ q = true then mendFrom false l else c :: mendFrom false l := fun q l => rfl
    show mendFrom p (c :: (d :: r ++ [10])) = _
    rw [e, e, ih true, ih false]
theorem men_cr {T : Str} {pre : List Nat} {n : Nat} (hT : T.cps.toList = mend pre) (h : ((⟨#[n]⟩ : Str) == Str.ofString "\r") = true) : (T ++ Str.ofString "\n").cps.toList = mend (pre ++ [n]) := by
  rw [one_beq cr_is, decide_eq_true_eq] at h
  subst h
  rw [Str.cps_append, Array.toList_append, lf_is, hT, mend_cut (.inl (by simp))]
  simp [mendFrom]
theorem men_plain {T : Str} {pre : List Nat} {n : Nat} (hT : T.cps.toList = mend pre) (h : ((⟨#[n]⟩ : Str) == Str.ofString "\r") = false) (h2 : ((⟨#[n]⟩ : Str) != Str.ofString "\n") = true) : (T ++ ⟨#[n]⟩).cps.toList = mend (pre ++ [n]) := by
  rw [one_beq cr_is, decide_eq_false_iff_not] at h
  rw [bne, one_beq lf_is] at h2
  have h2' : n ≠ 10 := by simpa using h2
  rw [Str.cps_append, Array.toList_append, hT, mend_cut (.inl (by simpa using h2'))]
  simp [mendFrom, h, h2']
theorem men_keep {T B : Str} {pre : List Nat} {n : Nat} (hT : T.cps.toList = mend pre) (hB : B.cps.toList = pre.getLast?.toList) (h2 : ((⟨#[n]⟩ : Str) != Str.ofString "\n") = false) (h3 : (B != Str.ofString "\r") = true) : (T ++ ⟨#[n]⟩).cps.toList = mend (pre ++ [n]) := by
  rw [bne, one_beq lf_is] at h2
  have h2' : n = 10 := by simpa using h2
  subst h2'
  have hl : pre.getLast? ≠ some 13 := by
    intro e
    rw [e] at hB
    have : B = Str.ofString "\r" := by rw [cr_is]; exact list_inj hB
    rw [this] at h3
    simp at h3
  rw [Str.cps_append, Array.toList_append, hT]
  cases pre with
  | nil => simp [mendFrom]
  | cons c r => rw [mend_cut (.inr ⟨by simp, hl⟩)]; simp [mendFrom]
theorem men_drop {T B : Str} {pre : List Nat} {n : Nat} (hT : T.cps.toList = mend pre) (hB : B.cps.toList = pre.getLast?.toList) (h2 : ((⟨#[n]⟩ : Str) != Str.ofString "\n") = false) (h3 : (B != Str.ofString "\r") = false) : T.cps.toList = mend (pre ++ [n]) := by
  rw [bne, one_beq lf_is] at h2
  have h2' : n = 10 := by simpa using h2
  subst h2'
  have hb : B = Str.ofString "\r" := by simpa using h3
  rw [hb, cr_is] at hB
  have hl : pre.getLast? = some 13 := by
    cases h : pre.getLast? with
    | none => rw [h] at hB; simp at hB
    | some c => rw [h] at hB; simpa using hB.symm
  rw [hT]
  exact (mend_lf_drop pre false hl).symm
theorem spot_lf {pre : List Nat} {n : Nat} {l : Int} (hL : l = (pre.count 10 : Nat) + 1) (h : ((⟨#[n]⟩ : Str) == Str.ofString "\n") = true) : l + 1 = ((pre ++ [n]).count 10 : Nat) + 1 ∧ 0 = colFrom 0 (pre ++ [n]) := by
  rw [one_beq lf_is, decide_eq_true_eq] at h
  subst h
  refine ⟨?_, ?_⟩
  · rw [List.count_append]; simp; omega
  · rw [colFrom_append]; simp [colFrom]
theorem spot_no {pre : List Nat} {n : Nat} {l c : Int} (hL : l = (pre.count 10 : Nat) + 1) (hC : c = colFrom 0 pre) (h : ((⟨#[n]⟩ : Str) == Str.ofString "\n") = false) : l + 0 = ((pre ++ [n]).count 10 : Nat) + 1 ∧ c + 1 = colFrom 0 (pre ++ [n]) := by
  rw [one_beq lf_is, decide_eq_false_iff_not] at h
  refine ⟨?_, ?_⟩
  · rw [List.count_append]; simp [h]; omega
  · rw [colFrom_append, hC]; simp [colFrom, h]
theorem count_is (k : Str) : ∀ ys : List Str, Spec.countIn (PyData.str k) (ys.map PyData.str) = ((ys.count k : Nat) : Int)
  | [] => rfl
  | y :: r => by
    have ih := count_is k r
    show (if Spec.same (.str y) (.str k) then (1 : Int) else 0) + Spec.countIn (PyData.str k) (r.map PyData.str) = _
    rw [ih, List.count_cons]
    have e : Spec.same (.str y) (.str k) = (y == k) := by simp [Spec.same]
    rw [e]
    cases h : (y == k) <;> simp <;> omega
abbrev isRun (ys : List Str) (wd : Int) : Nat → Bool := fun c => ((ys.count ⟨#[c]⟩ : Nat) : Int) == wd
theorem run_more {ys : List Str} {wd : Int} {R : Str} {pre : List Nat} {n : Nat} (hR : R.cps.toList = pre) (hA : ∀ c ∈ pre, isRun ys wd c = true) (h : Spec.countIn (PyData.str ⟨#[n]⟩) (ys.map PyData.str) = wd) :
    (R ++ ⟨#[n]⟩).cps.toList = pre ++ [n] ∧ ∀ c ∈ pre ++ [n], isRun ys wd c = true := by
  rw [count_is] at h
  refine ⟨by rw [Str.cps_append, Array.toList_append, hR], fun c hc => ?_⟩
  rcases List.mem_append.mp hc with hc | hc
  · exact hA c hc
  · rw [List.mem_singleton.mp hc]
    simpa [isRun] using h
theorem take_all {P : Nat → Bool} : ∀ (a b : List Nat), (∀ c ∈ a, P c = true) → (a ++ b).takeWhile P = a ++ b.takeWhile P
  | [], b, _ => rfl
  | x :: a, b, h => by rw [List.cons_append, List.takeWhile_cons_of_pos (h x (.head _)), take_all a b fun y hy => h y (.tail _ hy), List.cons_append]
theorem run_stop {ys : List Str} {wd : Int} {x R : Str} {pre post : List Nat} {n : Nat} (hx : x.cps.toList = pre ++ n :: post) (hR : R.cps.toList = pre) (hA : ∀ c ∈ pre, isRun ys wd c = true) (h : Spec.countIn (PyData.str ⟨#[n]⟩) (ys.map PyData.str) ≠ wd) :
    R.cps.toList = x.cps.toList.takeWhile (isRun ys wd) := by
  rw [count_is] at h
  rw [hx, take_all pre _ hA, List.takeWhile_cons_of_neg (by simpa [isRun] using h), List.append_nil, hR]
theorem run_all {ys : List Str} {wd : Int} {x R : Str} (hR : R.cps.toList = x.cps.toList) (hA : ∀ c ∈ x.cps.toList, isRun ys wd c = true) : R.cps.toList = x.cps.toList.takeWhile (isRun ys wd) := by
  have := take_all x.cps.toList [] hA
  rw [List.append_nil] at this
  rw [this, List.takeWhile_nil, List.append_nil, hR]
end

section
local macro_rules | `(tactic| walk_at "my pad 0") => `(tactic| skip)
theorem fresh_CLaw1 : True := by
  w_top off
  k_with_none
  trivial
local macro_rules | `(tactic| walk_at "call builtin:list.count") => `(tactic| k_extra "call builtin:list.count")
structure SM where
  T : Str
  tT : Tok
  B : Str
  tB : Tok
set_option maxRecDepth 100000 in
set_option maxHeartbeats 8000000 in
theorem con_mended (w : World) (raw : Str) (t : Tok) (hl : raw.length ≤ 40) : Con w 164 1 8 [] [.str raw t] (fun r led' => led' = [] ∧ ∃ (x : Str) (tx : Tok), r = .str x tx ∧ x.cps.toList = mend raw.cps.toList) := by
  unfold Con
  k_fill
  intro mean mg mb dp un gd cn cs a ccd cl outer A₀ base h₀ L m own s Q E B F X N T hk hoff hd hu hret
  simp only [List.nil_append] at N
  k_with_none
  k_with "pyIter str" => fail "by hand"
  refine wpAny_call ?_
  walk_at "my enter"
  k_steps
  (rename Fr _ _ _ _ => lF')
  (rename News _ _ _ _ => lN')
  with_unfolding_all refine my_text (σ := SM) (fun _ => []) own (fun z => [("text", .str z.T z.tT), ("before", .str z.B z.tB)]) [] (fun pre z => z.T.cps.toList = mend pre ∧ z.B.cps.toList = pre.getLast?.toList) ⟨_, _, _, _⟩ (by rfl) (fun _ => rfl) lF' lN' (fun _ _ _ hb => nomatch hb) (by kst_all) ⟨rfl, rfl⟩ ?_ ?_
  all_goals clear lF' lN'
  · rintro ⟨T₁, tT, B₁, tB⟩ pre n post t₁ u h tk ow hx hoff' hsub ⟨hT, hB⟩ F₁ N₁
    dsimp only at hT hB
    simp only [List.nil_append] at N₁
    dsimp only at F₁
    have hTl : T₁.length ≤ 80 := by
      have h1 := len_list T₁
      have h2 := mend_le pre false
      have h3 := len_list raw
      rw [hx, List.length_append] at h3
      rw [hT] at h1
      have h4 : (mend pre).length ≤ pre.length := h2
      omega
    (try k_fold)
    k_steps
    · dsimp only [MyPost]
      (rename News _ _ _ _ => nE)
      (rename ((⟨#[n]⟩ : Str) == _) = true => h1)
      exact my_end ⟨_, _, _, _⟩ (by k_asm) nE (by kst_all) (by walk_at "my same") ⟨men_cr hT h1, last_one⟩
    · dsimp only [MyPost]
      (rename News _ _ _ _ => nE)
      (rename ((⟨#[n]⟩ : Str) == _) = false => h1)
      (rename ((⟨#[n]⟩ : Str) != _) = true => h2)
      exact my_end ⟨_, _, _, _⟩ (by k_asm) nE (by kst_all) (by walk_at "my same") ⟨men_plain hT h1 h2, last_one⟩
    · dsimp only [MyPost]
      (rename News _ _ _ _ => nE)
      (rename ((⟨#[n]⟩ : Str) != _) = false => h2)
      (rename (B₁ != _) = true => h3)
      exact my_end ⟨_, _, _, _⟩ (by k_asm) nE (by kst_all) (by walk_at "my same") ⟨men_keep hT hB h2 h3, last_one⟩
    · dsimp only [MyPost]
      (rename News _ _ _ _ => nE)
      (rename ((⟨#[n]⟩ : Str) != _) = false => h2)
      (rename (B₁ != _) = false => h3)
      exact my_end ⟨_, _, _, _⟩ (by k_asm) nE (by kst_all) (by walk_at "my same") ⟨men_drop hT hB h2 h3, last_one⟩
  · rintro ⟨T₁, tT, B₁, tB⟩ u h tk ⟨hT, hB⟩ F₁ N₁
    dsimp only at hT hB
    simp only [List.nil_append] at N₁
    dsimp only at F₁
    (try k_fold)
    k_steps
    (rename News _ _ _ _ => nE)
    exact hret _ [] _ _ (by k_asm) nE ⟨rfl, _, _, rfl, hT⟩
end

section
theorem fresh_CLaw2 : True := by
  w_top off
  k_with_none
  trivial
structure SS where
  line : Int
  tl : Tok
  col : Int
  tc : Tok
set_option maxRecDepth 100000 in
set_option maxHeartbeats 8000000 in
theorem con_lspot (w : World) (x : Str) (t : Tok) (p : Int) (tp : Tok) (hl : x.length ≤ 40) (h0 : 0 ≤ p) (h1 : p ≤ x.length) : Con w 171 1 8 [] [.str x t, .int p tp]
    (fun r led' => ∃ a ta tb, r = .ref a ∧ led' = [(a, tupOf #[.int (((x.cps.toList.take p.toNat).count 10 : Nat) + 1) ta, .int (colFrom 0 (x.cps.toList.take p.toNat)) tb])]) := by
  unfold Con
  k_fill
  intro mean mg mb dp un gd cn cs a ccd cl outer A₀ base h₀ L m own s Q E B F X N T hk hoff hd hu hret
  simp only [List.nil_append] at N
  k_with_none
  k_with "pyIter str" => fail "by hand"
  refine wpAny_call ?_
  walk_at "my enter"
  (rename Fr _ _ _ _ => lF')
  refine my_cutk 2 (σ := Tok × Tok) (fun _ => []) own (fun z => [("line", .int 1 z.1), ("column", .int 0 z.2)]) [] (fun _ => True) lF' ?_ ?_
  · simp only [List.take_succ_cons, List.take_zero]
    (try k_fold)
    k_steps
    dsimp only [CutPost]
    (rename News _ _ _ _ => nE)
    exact cut_end (_, _) (by k_asm) nE (by kst_all) (by walk_at "my cutsame") trivial
  · rintro ⟨t1, t2⟩ u h tk hle - F₁ N₁
    simp only [List.nil_append] at N₁
    (try dsimp only at F₁)
    simp only [List.drop_succ_cons, List.drop_zero]
    refine wpAny_execs_cons ?_
    (with_unfolding_all refine For_invVF F₁ rfl rfl ?_)
    (try k_fold)
    k_steps
    (rename Fr _ _ _ _ => lF')
    (rename News _ _ _ _ => lN')
    with_unfolding_all refine my_text (σ := SS) (fun _ => []) own (fun z => [("line", .int z.line z.tl), ("column", .int z.col z.tc)]) [] (fun pre z => z.line = (pre.count 10 : Nat) + 1 ∧ z.col = colFrom 0 pre) ⟨1, t1, 0, t2⟩ (by rfl) (fun _ => rfl) lF' lN' (fun _ _ _ hb => nomatch hb) (by kst_all) ⟨rfl, rfl⟩ ?_ ?_
    all_goals clear lF' lN'
    · rintro ⟨l₁, tl, c₁, tc⟩ pre n post t₁ u h tk ow hx hoff' hsub ⟨hL, hC⟩ F₁ N₁
      dsimp only at hL hC
      simp only [List.nil_append] at N₁
      (try dsimp only at F₁)
      (try k_fold)
      k_steps
      · dsimp only [MyPost]
        (rename News _ _ _ _ => nE)
        (rename ((⟨#[n]⟩ : Str) == _) = true => h1)
        exact my_end ⟨_, _, _, _⟩ (by k_asm) nE (by kst_all) (by walk_at "my same") (spot_lf hL h1)
      · dsimp only [MyPost]
        (rename News _ _ _ _ => nE)
        (rename ((⟨#[n]⟩ : Str) == _) = false => h1)
        exact my_end ⟨_, _, _, _⟩ (by k_asm) nE (by kst_all) (by walk_at "my same") (spot_no hL hC h1)
    · rintro ⟨l₁, tl, c₁, tc⟩ u h tk ⟨hL, hC⟩ F₁ N₁
      dsimp only at hL hC
      simp only [List.nil_append] at N₁
      (try dsimp only at F₁)
      rw [slice_to h0 h1] at hL hC
      (try k_fold)
      k_steps
      (rename News _ _ _ _ => nE)
      rw [hL, hC] at nE
      exact hret _ [(_, _)] _ _ (by k_asm) nE ⟨_, _, _, rfl, rfl⟩
end

section
theorem fresh_CLaw3 : True := by
  w_top off
  k_with_none
  trivial
local macro_rules | `(tactic| walk_at "call builtin:list.count") => `(tactic| k_extra "call builtin:list.count")
set_option maxRecDepth 100000 in
set_option maxHeartbeats 8000000 in
theorem con_lrun (w : World) (x : Str) (t : Tok) (rl : Addr) (vs : List Value) (nv : Nat) (ys : List Str) (hi : StrsAre vs ys) (wd : Int) (tw : Tok) (hl : x.length ≤ 40) : Con w 178 1 8 [(rl, listOf vs.toArray nv)] [.str x t, .ref rl, .int wd tw]
    (fun r led' => led' = [(rl, listOf vs.toArray nv)] ∧ ∃ (y : Str) (ty : Tok), r = .str y ty ∧ y.cps.toList = x.cps.toList.takeWhile (isRun ys wd)) := by
  unfold Con
  k_fill
  intro mean mg mb dp un gd cn cs a ccd cl outer A₀ base h₀ L m own s Q E B F X N T hk hoff hd hu hret
  simp only [List.cons_append, List.nil_append] at N
  simp only [List.map_cons, List.map_nil] at hoff
  k_with_none
  k_with "pyIter str" => fail "by hand"
  refine wpAny_call ?_
  walk_at "my enter"
  (rename Fr _ _ _ _ => lF')
  refine my_cutk 1 (σ := Tok) (fun _ => [(rl, listOf vs.toArray nv)]) own (fun z => [("run", .str (Str.ofString "") z)]) [] (fun _ => True) lF' ?_ ?_
  · simp only [List.take_succ_cons, List.take_zero]
    (try k_fold)
    k_steps
    dsimp only [CutPost]
    (rename News _ _ _ _ => nE)
    exact cut_end _ (by k_asm) nE (by kst_all) (by walk_at "my cutsame") trivial
  · rintro t1 u h tk hle - F₁ N₁
    simp only [List.cons_append, List.nil_append] at N₁
    (try dsimp only at F₁)
    simp only [List.drop_succ_cons, List.drop_zero]
    refine wpAny_execs_cons ?_
    (with_unfolding_all refine For_invVF F₁ rfl rfl ?_)
    (try k_fold)
    k_steps
    (rename Fr _ _ _ _ => lF')
    (rename News _ _ _ _ => lN')
    with_unfolding_all refine my_text (σ := Str × Tok) (fun _ => [(rl, listOf vs.toArray nv)]) own (fun z => [("run", .str z.1 z.2)]) [] (fun pre z => z.1.cps.toList = pre ∧ ∀ c ∈ pre, isRun ys wd c = true) ⟨Str.ofString "", t1⟩ (by rfl) (fun _ => rfl) lF' lN' hoff (by kst_all) ⟨rfl, fun _ h => nomatch h⟩ ?_ ?_
    all_goals clear lF' lN'
    · rintro ⟨R₁, tr⟩ pre n post t₁ u h tk ow hx hoff' hsub ⟨hR, hA⟩ F₁ N₁
      dsimp only at hR hA
      simp only [List.cons_append, List.nil_append] at N₁
      (try dsimp only at F₁)
      have hRl : R₁.length ≤ 40 := by
        have h1 := len_list x
        have h2 := len_list R₁
        rw [hx, List.length_append] at h1
        rw [hR] at h2
        omega
      k_with "call builtin:list.count" => k_dflt ((refine' count_list_strs ?l hi ?_); (case l => exact News.isList (by k_asm) (by k_mem)); (try dsimp only))
      (try k_fold)
      k_steps
      · dsimp only
        (try dsimp only [MyPost])
        k_steps
        (try dsimp only [MyPost])
        k_steps
        (rename News _ _ _ _ => nE)
        (rename Spec.countIn _ _ ≠ wd => h1)
        refine hret _ [(rl, listOf vs.toArray nv)] _ _ (by k_asm) (cb_drop nE ?_) ⟨rfl, _, _, rfl, run_stop hx hR hA h1⟩
        intro p hp
        rcases List.mem_cons.mp hp with hp | hp
        · exact hp ▸ List.mem_cons_self
        · exact List.mem_cons_of_mem _ (hsub p hp)
      · dsimp only [MyPost]
        (rename News _ _ _ _ => nE)
        (rename Spec.countIn _ _ = wd => h1)
        exact my_end ⟨_, _⟩ (by k_asm) nE (by kst_all) (by walk_at "my same") (run_more hR hA h1)
    · rintro ⟨R₁, tr⟩ u h tk ⟨hR, hA⟩ F₁ N₁
      dsimp only at hR hA
      simp only [List.cons_append, List.nil_append] at N₁
      (try dsimp only at F₁)
      (try k_fold)
      k_steps
      (rename News _ _ _ _ => nE)
      exact hret _ [(rl, listOf vs.toArray nv)] _ _ (by k_asm) nE ⟨rfl, _, _, rfl, run_all hR hA⟩
end

section
def sgs : List Str := ["a", "b", "\r\n", "\n", "\r", "\x01", " ", "\ufdd0", "é", "\x00", "😀"]
def sgn (k : Int) : Str := sgs.getD (k.fmod 11).toNat Str.empty
theorem sgs_ok : ∀ i, i < 11 → 1 ≤ (sgs.getD i Str.empty).cps.toList.length ∧ (sgs.getD i Str.empty).cps.toList.length ≤ 2 ∧ ∀ c ∈ (sgs.getD i Str.empty).cps.toList, c ∈ [97, 98, 13, 10, 1, 32, 64976, 233, 0, 128512] := by
  decide +kernel
theorem sgn_ok (k : Int) : 1 ≤ (sgn k).cps.toList.length ∧ (sgn k).cps.toList.length ≤ 2 ∧ ∀ c ∈ (sgn k).cps.toList, goodSign c := by
  have h1 := fmod_lo k (n := 11) (by decide)
  have h2 := fmod_hi k (n := 11) (by decide)
  exact sgs_ok _ (by omega)
theorem flat_cons (x : Str) (xs : List Str) : flat (x :: xs) = x.cps.toList ++ flat xs := by simp [flat]
theorem flat_sgn : ∀ (l : List Int), l.length ≤ (flat (l.map sgn)).length ∧ (flat (l.map sgn)).length ≤ 2 * l.length ∧ ∀ c ∈ flat (l.map sgn), goodSign c
  | [] => ⟨by simp [flat], by simp [flat], by simp [flat]⟩
  | k :: l => by
    obtain ⟨h1, h2, h3⟩ := flat_sgn l
    obtain ⟨g1, g2, g3⟩ := sgn_ok k
    rw [List.map_cons, flat_cons]
    simp only [List.length_append, List.length_cons]
    refine ⟨by omega, by omega, fun c hc => ?_⟩
    rcases List.mem_append.mp hc with h | h
    · exact g3 c h
    · exact h3 c h
theorem raw_ok (l : List Int) (h1 : 1 ≤ l.length) (h2 : l.length ≤ 13) : 1 ≤ (Txt.join (Str.ofString "") (l.map sgn)).length ∧ (Txt.join (Str.ofString "") (l.map sgn)).length ≤ 40 ∧ ∀ c ∈ (Txt.join (Str.ofString "") (l.map sgn)).cps.toList, goodSign c := by
  obtain ⟨a1, a2, a3⟩ := flat_sgn l
  have e := join_flat (l.map sgn)
  have hl : (Txt.join (Str.ofString "") (l.map sgn)).length = (flat (l.map sgn)).length := by
    rw [← e]; exact (Array.length_toList).symm
  rw [hl, e]
  exact ⟨by omega, by omega, a3⟩
theorem raw_sum (l : List Int) (h2 : l.length ≤ 13) : ((l.map sgn).map (·.length)).sum + (l.map sgn).length * (Str.ofString "").length ≤ 16777216 := by
  obtain ⟨a1, a2, a3⟩ := flat_sgn l
  rw [flat_sum]
  have : (Str.ofString "").length = 0 := by decide +kernel
  rw [this]
  omega
end

section
theorem led_made {w : World} {h₀ h : Heap} {L : Addr} {ow : List (Addr × Obj)} {q dq x d er nl mo : Addr} {k1 k2 k3 k4 k5 k6 k7 k8 k9 k10 j1 j2 traw tch tsz tof tpl tpc tpp tn : Tok} {raw : Str} {ep np : Nat}
    (hl : raw.length ≤ 40) (hs : ∀ c ∈ raw.cps.toList, goodSign c)
    (N : News h₀ L h ([(er, listOf #[] ep), (x, instObj 45 d),
      (d, dictOf [ent w "text" j1 (.str raw traw), ent w "place" j2 (.int 0 tpp)] 2),
      (nl, listOf #[Value.int 0 tn] np), (mo, methodObj (.ref 120) (.ref q)), (q, instObj 138 dq),
      (dq, dictOf [⟨PyData.keyHash w.params "reportCharacterErrors", .str "reportCharacterErrors" k1, .ref mo⟩, ⟨PyData.keyHash w.params "newLines", .str "newLines" k2, .ref nl⟩, ⟨PyData.keyHash w.params "dataStream", .str "dataStream" k3, .ref x⟩, ⟨PyData.keyHash w.params "chunk", .str "chunk" k4, .str "" tch⟩, ⟨PyData.keyHash w.params "chunkSize", .str "chunkSize" k5, .int 0 tsz⟩, ⟨PyData.keyHash w.params "chunkOffset", .str "chunkOffset" k6, .int 0 tof⟩, ⟨PyData.keyHash w.params "errors", .str "errors" k7, .ref er⟩, ⟨PyData.keyHash w.params "prevNumLines", .str "prevNumLines" k8, .int 0 tpl⟩, ⟨PyData.keyHash w.params "prevNumCols", .str "prevNumCols" k9, .int 0 tpc⟩, ⟨PyData.keyHash w.params "_bufferedCharacter", .str "_bufferedCharacter" k10, .none⟩] 10)] ++ ow))
    (o1 : @LT.lt Nat _ dq q) (o2 : @LT.lt Nat _ q mo) (o3 : @LT.lt Nat _ mo nl) (o4 : @LT.lt Nat _ nl d) (o5 : @LT.lt Nat _ d x) (o6 : @LT.lt Nat _ x er) :
    ∃ z : Fx × St, (z.1.Ok ∧ GoodRaw z.1 ∧ z.1.raw = raw ∧ Inv z.1 z.2 [] ∧ z.2.size ≤ z.2.off ∧ remT z.1 z.2 = mend raw.cps.toList) ∧ z.1.q = q ∧ z.1.dq = dq ∧ News h₀ L h (Led w z.1 z.2 ++ ow) := by
  have he : ("" : Str).cps.toList = [] := by decide +kernel
  have hz : ("" : Str).length = 0 := by decide +kernel
  have hrest : restl ⟨q, dq, x, d, er, nl, mo, k1, k2, k3, k4, k5, k6, k7, k8, k9, k10, j1, j2, raw, traw⟩ ⟨"", tch, 0, tsz, 0, tof, [], ep, 0, tpl, 0, tpc, .none, 0, tpp⟩ = raw.cps.toList := by
    show [] ++ raw.cps.toList.drop 0 = _
    simp
  refine ⟨(⟨q, dq, x, d, er, nl, mo, k1, k2, k3, k4, k5, k6, k7, k8, k9, k10, j1, j2, raw, traw⟩, ⟨"", tch, 0, tsz, 0, tof, [], ep, 0, tpl, 0, tpc, .none, 0, tpp⟩), ⟨⟨o1, o2, o3, o4, o5, o6⟩, ⟨hl, hs⟩, rfl, ?_, Int.le_refl _, ?_⟩, rfl, rfl, ?_⟩
  · refine ⟨.inl rfl, Int.le_refl _, Int.natCast_nonneg _, ?_, Int.le_refl _, Int.le_refl _, rfl, rfl, ?_, ?_⟩
    · show (0 : Int) = _
      rw [hz]; rfl
    · show mend raw.cps.toList = [] ++ ("" : Str).cps.toList ++ mend ([] ++ raw.cps.toList.drop 0)
      rw [he]; simp
    · exact ⟨rfl, fun v hv => by simp at hv⟩
  · show ("" : Str).cps.toList.drop 0 ++ mend (restl _ _) = _
    rw [hrest, he]; rfl
  · refine cb_drop N fun p hp => ?_
    simp only [Led, List.cons_append, List.nil_append, List.mem_cons] at hp ⊢
    rcases hp with h | h | h | h | h | h | h
    · exact .inr (.inr (.inr (.inr (.inr (.inl h)))))
    · exact .inr (.inr (.inr (.inr (.inr (.inr (.inl h))))))
    · exact .inl h
    · exact .inr (.inl h)
    · exact .inr (.inr (.inl h))
    · exact .inr (.inr (.inr (.inr (.inl h))))
    · exact .inr (.inr (.inr (.inr (.inr (.inr (.inr h))))))
theorem law_off {w : World} {f : Fx} {c : St} {tl m : Addr} {o o' : Obj} (hf : f.Ok) (h : @LT.lt Nat _ tl f.dq) (h' : @LT.lt Nat _ m tl) : OwnOff [(tl, o), (m, o')] ((Led w f c).map (·.1)) := by
  obtain ⟨h1, h2, h3, h4, h5, h6⟩ := hf
  intro p hp b hb
  simp only [Led, List.map_cons, List.map_nil, List.mem_cons, List.not_mem_nil, or_false] at hp hb
  rcases hp with rfl | rfl <;> rcases hb with rfl | rfl | rfl | rfl | rfl | rfl <;> (intro e; dsimp only at e; subst e; omega)
theorem rd_first {f : Fx} {c c' : St} {R : List Nat} (hI : Inv f c []) (hrem : remT f c = R) (hso : c.size ≤ c.off) (hI' : Inv f c' ([] ++ c.chunk.cps.toList)) (h0 : c'.off = 0) : ∃ pre, Inv f c' pre ∧ remT f c' = R :=
  ⟨_, hI', (rem_after hI hso hI' h0).trans hrem⟩
theorem rd_n0 (k : Int) : 2 ≤ 2 + k.fmod 5 := by
  have h1 := fmod_lo k (n := 5) (by decide)
  omega
theorem rd_n1 (k : Int) : 2 + k.fmod 5 ≤ 10240 := by
  have h2 := fmod_hi k (n := 5) (by decide)
  omega
theorem law_off2 {w : World} {f : Fx} {c : St} {tl m : Addr} {o o' : Obj} (hf : f.Ok) (h : @LT.lt Nat _ tl f.dq) (h' : @LT.lt Nat _ m tl) : OwnOff [(m, o'), (tl, o)] ((Led w f c).map (·.1)) := fun p hp => law_off (w := w) (c := c) (o := o) (o' := o') hf h h' p (by simp only [List.mem_cons, List.not_mem_nil, or_false] at hp ⊢; exact hp.symm)
theorem law_off3 {w : World} {f : Fx} {c : St} {tl m : Addr} {o o' : Obj} (hf : f.Ok) (h : @LT.lt Nat _ tl f.dq) (h' : @LT.lt Nat _ m tl) : OwnOff [(tl, o)] ((Led w f c ++ [(m, o')]).map (·.1)) := by
  intro p hp b hb
  rw [List.map_append] at hb
  rcases List.mem_append.mp hb with hb | hb
  · exact law_off2 (w := w) (c := c) (o := o) (o' := o) hf h h' p (List.mem_cons_of_mem _ hp) b hb
  · simp only [List.map_cons, List.map_nil, List.mem_cons, List.not_mem_nil, or_false] at hb hp
    subst hp hb
    intro e
    dsimp only at e
    subst e
    omega
theorem news_swap {h₀ h : Heap} {L : Addr} {a : List (Addr × Obj)} {x y : Addr × Obj} (N : News h₀ L h (a ++ [x, y])) : News h₀ L h ((a ++ [y]) ++ [x]) :=
  cb_drop N fun p hp => by
    simp only [List.mem_append, List.mem_cons, List.not_mem_nil, or_false] at hp ⊢
    rcases hp with (h | h) | h
    · exact .inl h
    · exact .inr (.inr h)
    · exact .inr (.inl h)
theorem cell_apart {w : World} {f : Fx} {c : St} {tl m : Addr} {o' : Obj} {ow : List (Addr × Obj)} (hf : f.Ok) (h : @LT.lt Nat _ tl f.dq) (h' : @LT.lt Nat _ m tl) (ho : OwnOff ow ((Led w f c ++ [(m, o')]).map (·.1))) : ∀ p ∈ Led w f c ++ ow, p.1 ≠ m := by
  intro p hp e
  rcases List.mem_append.mp hp with hp | hp
  · have := law_off2 (w := w) (c := c) (o := o') (o' := o') hf h h' (m, o') List.mem_cons_self p.1 (List.mem_map.mpr ⟨p, hp, rfl⟩)
    exact this e.symm
  · exact ho p hp m (by rw [List.map_append]; exact List.mem_append.mpr (.inr (by simp))) e
theorem cell_front {h₀ h : Heap} {L : Addr} {a b : List (Addr × Obj)} {x : Addr × Obj} (N : News h₀ L h ((a ++ [x]) ++ b)) : News h₀ L h ([] ++ x :: (a ++ b)) :=
  cb_drop N fun p hp => by
    simp only [List.nil_append, List.mem_append, List.mem_cons, List.not_mem_nil, or_false] at hp ⊢
    rcases hp with h | h | h
    · exact .inl (.inr h)
    · exact .inl (.inl h)
    · exact .inr h
def asked : List Str := ["a", "b", "\n", "\x01", " ", "\ufdd0", "é", "\x00", "😀"]
theorem strs_sub : ∀ {vs : List Value} {xs : List Str}, StrsAre vs xs → ∀ {ys : List Value}, ys.Sublist vs → ∃ zs, StrsAre ys zs ∧ zs.Sublist xs
  | _, _, .nil, ys, h => by
    have : ys = [] := by simpa using h
    subst this
    exact ⟨[], .nil, List.Sublist.refl _⟩
  | _, _, .cons y t r, ys, h => by
    cases h with
    | cons _ h' =>
      obtain ⟨zs, h1, h2⟩ := strs_sub r h'
      exact ⟨zs, h1, h2.cons _⟩
    | cons_cons _ h' =>
      obtain ⟨zs, h1, h2⟩ := strs_sub r h'
      exact ⟨y :: zs, .cons y t h1, h2.cons_cons _⟩
theorem strs_asked {t1 t2 t3 t4 t5 t6 t7 t8 t9 : Tok} : StrsAre [.str "a" t1, .str "b" t2, .str "\n" t3, .str "\x01" t4, .str " " t5, .str "\ufdd0" t6, .str "é" t7, .str "\x00" t8, .str "😀" t9] asked :=
  .cons _ _ (.cons _ _ (.cons _ _ (.cons _ _ (.cons _ _ (.cons _ _ (.cons _ _ (.cons _ _ (.cons _ _ .nil))))))))
theorem rv_at {w : World} {f : Fx} {c : St} {D : Addr} {news : List (Addr × Obj)} (h : ∀ p ∈ news, p.1 < D) (hm : ∀ p ∈ Led w f c, p ∈ news) : RvAt f D := by
  have k : ∀ p ∈ Led w f c, p.1 < D := fun p hp => h _ (hm _ hp)
  simp only [Led, List.forall_mem_cons, List.not_mem_nil, false_implies, implies_true, and_true] at k
  obtain ⟨k1, k2, k3, k4, k5, k6⟩ := k
  exact ⟨k1, k2, k3, k4, k5, k6⟩
theorem text_len {raw T : Str} (h : raw.length ≤ 40) (hT : T.cps.toList = mend raw.cps.toList) : T.length ≤ 40 := by
  have h1 := len_list T
  have h2 : (mend raw.cps.toList).length ≤ raw.cps.toList.length := mend_le _ false
  have h3 := len_list raw
  rw [hT] at h1
  omega
theorem rest_len {T : Str} {p : Int} (h : T.length ≤ 40) (h0 : 0 ≤ p) (h1 : p ≤ T.length) : (Txt.slice T (some p) none).length ≤ 40 := by
  have e := congrArg List.length (slice_from h0 h1)
  rw [len_list, List.length_drop, len_list] at e
  omega
theorem rest_run {T y : Str} {p : Int} {P : Nat → Bool} (h0 : 0 ≤ p) (h1 : p ≤ T.length) (h : y.cps.toList = (Txt.slice T (some p) none).cps.toList.takeWhile P) : y.cps.toList = (T.cps.toList.drop p.toNat).takeWhile P := by
  rw [h, slice_from h0 h1]
theorem off_row {D : Addr} {o : Obj} {own : List (Addr × Obj)} (h : ∀ p ∈ own, @LT.lt Nat _ p.1 D) : OwnOff own ([(D, o)].map (·.1)) := by
  intro p hp b hb
  have hb' : b = D := by simpa using hb
  rw [hb']
  exact Nat.ne_of_lt (h p hp)
theorem wanted_is (n : Int) : (n.fdiv 2).fmod 2 = 0 ∨ (n.fdiv 2).fmod 2 = 1 := by
  have h1 := fmod_lo (n.fdiv 2) (n := 2) (by decide)
  have h2 := fmod_hi (n.fdiv 2) (n := 2) (by decide)
  omega
end

section
section
variable {prog : Program} {w : World} {A : Around} {E : Value → Shared → Prop} {s : Shared} {env : Env} {h₀ : Heap} {x : PySem.Str} {body : List Stmt} {Q : Flow → Shared → Prop}
/-- a for over a list of ints that stands in the ledger -/
theorem my_list {σ : Type} {l : Addr} {vs : List Value} {ns : List Int} {nn : Nat} {m₀ : PySem.Str → Option Value} (led : σ → List (Addr × Obj)) (own : List (Addr × Obj)) (ps : σ → List (PySem.Str × Value)) (stored : List PySem.Str) (P : σ → Prop) (c₀ : σ)
    (hh : A.handled = none) (hl : (l, listOf vs.toArray nn) ∈ own) (hi : IntsAre vs ns) (hadr : ∀ c, (led c).map (·.1) = (led c₀).map (·.1))
    (F : Fr h₀ env.locals s.heap m₀) (N : News h₀ env.locals s.heap (led c₀ ++ own)) (hoff : OwnOff own ((led c₀).map (·.1))) (hk : ∀ p ∈ ps c₀, m₀ p.1 = some p.2) (hp : P c₀)
    (turn : ∀ (c : σ) (n : Int) (t : Tok) (u : PySem.Str → Option Value) h tk ow, n ∈ ns → OwnOff ow ((led c₀).map (·.1)) → (∀ p ∈ own, p ∈ ow) → P c →
      Fr h₀ env.locals h (fun y => if y = x then some (.int n t) else kstB (fun z => if stored.contains z then u z else m₀ z) (ps c) y) → News h₀ env.locals h (led c ++ ow) →
      wpAny (model prog w) A (execs body env) (MyPost h₀ env.locals led ow ps x stored m₀ P { s with heap := h, toks := tk } Q) E { s with heap := h, toks := tk })
    (done : ∀ (c : σ) (u : PySem.Str → Option Value) h tk, P c → Fr h₀ env.locals h (fun y => if y = x then u y else kstB (fun z => if stored.contains z then u z else m₀ z) (ps c) y) → News h₀ env.locals h (led c ++ own) → Q .next { s with heap := h, toks := tk }) :
    wpAny (model prog w) A (pyIter (.ref l)) (fun it s₂ => LoopAtV prog w A h₀ env x body Q E it s₂) E s := by
  refine iter_invNL (nn := nn) (news := led c₀ ++ own) (fun i m nx => ∃ c : σ, nx = led c ++ own ∧ (∀ p ∈ ps c, m p.1 = some p.2) ∧ (∀ z, z ≠ x → (∀ p ∈ ps c, z ≠ p.1) → stored.contains z = false → m z = m₀ z) ∧ P c) hh (List.mem_append.mpr (.inr hl)) hi F N ⟨c₀, rfl, hk, fun _ _ _ _ => rfl, hp⟩ ?_ ?_
  · rintro i n t m₁ nx h tk own' hn _ hoff' _ ⟨c, rfl, h1, h2, hp'⟩ F₁ N₁
    have hoff2 : OwnOff (own ++ own') ((led c₀).map (·.1)) := by
      intro p hp b hb
      rcases List.mem_append.mp hp with hp | hp
      · exact hoff p hp b hb
      · exact hoff' p hp b (by rw [List.map_append]; exact List.mem_append.mpr (.inl hb))
    rw [List.append_assoc] at N₁
    refine wpAny_mono (turn c n t m₁ h tk (own ++ own') (List.mem_of_getElem? hn) hoff2 (fun p hp => List.mem_append.mpr (.inl hp)) hp' (kst_fr h1 h2 F₁) N₁) (fun f s₂ p => ?_) fun _ _ x => x
    have up : MyEnd h₀ env.locals led (own ++ own') ps x stored m₀ P { s with heap := h, toks := tk } s₂ →
        InvEndN h₀ env.locals (fun m nx => (l, listOf vs.toArray nn) ∈ nx ∧ ∃ c : σ, nx = led c ++ own ∧ (∀ p ∈ ps c, m p.1 = some p.2) ∧ (∀ z, z ≠ x → (∀ p ∈ ps c, z ≠ p.1) → stored.contains z = false → m z = m₀ z) ∧ P c) own' ((led c₀ ++ own).map (·.1)) { s with heap := h, toks := tk } s₂ := by
      rintro ⟨c', h', tk', m', rfl, F', N', hk', hr', hP'⟩
      refine ⟨h', tk', m', led c' ++ (own ++ own'), led c' ++ own, rfl, F', N', fun p hp => ?_, fun p hp => ?_, ?_, List.mem_append.mpr (.inr hl), c', rfl, hk', hr', hP'⟩
      · rw [← List.append_assoc]; exact List.mem_append.mpr (.inl hp)
      · rw [← List.append_assoc]; exact List.mem_append.mpr (.inr hp)
      · rw [List.map_append, List.map_append, hadr c']
    cases f with
    | ret v => exact p
    | brk => exact p
    | next => exact up p
    | cont => exact up p
  · rintro m₁ nx h tk _ ⟨c, rfl, h1, h2, hp'⟩ F₁ N₁
    exact done c m₁ h tk hp' (kst_frOut h1 h2 F₁) N₁
end
end

section
theorem asked_nodup : asked.Nodup := by decide +kernel
theorem asked_one : ∀ x ∈ asked, ∃ c, x = (⟨#[c]⟩ : Str) := by
  intro x hx
  have h : ∀ y ∈ asked, y.cps.size = 1 := by decide +kernel
  have h1 := h x hx
  obtain ⟨a⟩ := x
  obtain ⟨c, hc⟩ := Array.size_eq_one_iff.mp h1
  exact ⟨c, congrArg _ hc⟩
theorem mem_flat_one {zs : List Str} (h : ∀ x ∈ zs, ∃ c, x = (⟨#[c]⟩ : Str)) (c : Nat) : c ∈ flat zs ↔ (⟨#[c]⟩ : Str) ∈ zs := by
  unfold flat
  rw [List.mem_flatten]
  constructor
  · rintro ⟨l, hl, hc⟩
    obtain ⟨x, hx, rfl⟩ := List.mem_map.mp hl
    obtain ⟨d, rfl⟩ := h x hx
    have : c = d := by simpa using hc
    rw [this]; exact hx
  · intro hx
    exact ⟨_, List.mem_map.mpr ⟨_, hx, rfl⟩, by simp⟩
theorem run_mem {zs : List Str} {wd : Int} {b : Bool} (hs : zs.Sublist asked) (hw : wd = 0 ∨ wd = 1) (hb : b = (wd == 1)) (c : Nat) : (decide ((⟨#[c]⟩ : Str) ∈ zs) == b) = isRun zs wd c := by
  have hn : zs.Nodup := hs.nodup asked_nodup
  have hc := hn.count (a := (⟨#[c]⟩ : Str))
  show _ = ((((zs.count (⟨#[c]⟩ : Str)) : Nat) : Int) == wd)
  rw [hc, hb]
  by_cases hm : (⟨#[c]⟩ : Str) ∈ zs <;> rcases hw with rfl | rfl <;> simp [hm]
theorem run_list {zs : List Str} {wd : Int} {b : Bool} (hs : zs.Sublist asked) (hw : wd = 0 ∨ wd = 1) (hb : b = (wd == 1)) : (fun c => (zs.any (· == (⟨#[c]⟩ : Str))) == b) = isRun zs wd := by
  funext c
  rw [← run_mem hs hw hb c]
  congr 1
  rw [Bool.eq_iff_iff, List.any_eq_true, decide_eq_true_eq]
  constructor
  · rintro ⟨x, hx, he⟩
    rw [← eq_of_beq he]; exact hx
  · intro h
    exact ⟨_, h, by simp⟩
theorem run_text {zs : List Str} {wd : Int} {b : Bool} (hs : zs.Sublist asked) (hw : wd = 0 ∨ wd = 1) (hb : b = (wd == 1)) : (fun c => (decide (c ∈ (Txt.join (Str.ofString "") zs).cps.toList)) == b) = isRun zs wd := by
  funext c
  rw [← run_mem hs hw hb c, join_flat]
  congr 1
  rw [Bool.eq_iff_iff, decide_eq_true_eq, decide_eq_true_eq]
  exact mem_flat_one (fun x hx => asked_one x (hs.subset hx)) c
theorem row_sum {zs : List Str} (hs : zs.Sublist asked) : (zs.map (·.length)).sum + zs.length * (Str.ofString "").length ≤ 16777216 := by
  have h0 : (Str.ofString "").length = 0 := by decide +kernel
  rw [h0]
  have h9 : zs.length ≤ 9 := hs.length_le
  have h : ∀ (l : List Str), (∀ x ∈ l, ∃ c, x = (⟨#[c]⟩ : Str)) → (l.map (·.length)).sum = l.length := by
    intro l
    induction l with
    | nil => intro _; rfl
    | cons x r ih =>
      intro hx
      obtain ⟨c, rfl⟩ := hx x List.mem_cons_self
      rw [List.map_cons, List.sum_cons, ih fun y hy => hx y (List.mem_cons_of_mem _ hy), List.length_cons]
      show 1 + _ = _
      omega
  rw [h zs fun x hx => asked_one x (hs.subset hx)]
  omega
theorem until_run {f : Fx} {c : St} {l : List Nat} {P Q : Nat → Bool} {x run : Str} (hP : P = Q) (hrem : remT f c = l) (hx : x.cps.toList = (remT f c).takeWhile P) (hr : run.cps.toList = l.takeWhile Q) : x = run :=
  list_inj (by rw [hx, hr, hrem, hP])
theorem until_rest {f : Fx} {c c' : St} {l : List Nat} {P Q : Nat → Bool} (hP : P = Q) (hrem : remT f c = l) (hx : remT f c' = (remT f c).dropWhile P) : remT f c' = l.dropWhile Q := by
  rw [hx, hrem, hP]
theorem law_off4 {w : World} {f : Fx} {c c₀ : St} {D m : Addr} {o o' o'' : Obj} {ow : List (Addr × Obj)} (hr : RvAt f D) (hm : ∀ p ∈ Led w f c₀, p.1 ≠ m) (ho : OwnOff ow ((Led w f c₀ ++ [(m, o'')]).map (·.1))) : OwnOff ((D, o) :: (m, o') :: ow) ((Led w f c).map (·.1)) := by
  refine off_rv hr ?_
  intro p hp b hb
  rcases List.mem_cons.mp hp with rfl | hp
  · intro e
    have hb' : b ∈ (Led w f c₀).map (·.1) := hb
    obtain ⟨q, hq, rfl⟩ := List.mem_map.mp hb'
    exact hm q hq e.symm
  · exact ho p hp b (by rw [List.map_append]; exact List.mem_append.mpr (.inl hb))
theorem news_led {h₀ h : Heap} {L : Addr} {a b : List (Addr × Obj)} {x y : Addr × Obj} (N : News h₀ L h (x :: y :: (a ++ b))) : News h₀ L h (a ++ (x :: y :: b)) :=
  cb_drop N fun p hp => by
    simp only [List.mem_append, List.mem_cons] at hp ⊢
    rcases hp with h | h | h | h
    · exact .inr (.inr (.inl h))
    · exact .inl h
    · exact .inr (.inl h)
    · exact .inr (.inr (.inr h))
theorem place_next {T run : Str} {place : Int} {P : Nat → Bool} (h0 : 0 ≤ place) (h1 : place ≤ T.length) (hrun : run.cps.toList = (T.cps.toList.drop place.toNat).takeWhile P) : 0 ≤ place + (run.length : Int) ∧ place + (run.length : Int) ≤ T.length := by
  have e := congrArg List.length hrun
  have e2 : ((T.cps.toList.drop place.toNat).takeWhile P).length ≤ (T.cps.toList.drop place.toNat).length := (List.takeWhile_sublist _).length_le
  rw [len_list] at e
  rw [List.length_drop, len_list] at e2
  omega
theorem rem_drop {f : Fx} {c : St} {T run : Str} {p : Nat} {P : Nat → Bool} (hrun : run.cps.toList = (T.cps.toList.drop p).takeWhile P) (hrem : remT f c = (T.cps.toList.drop p).dropWhile P) : remT f c = T.cps.toList.drop (p + run.length) := by
  have e := List.takeWhile_append_dropWhile (p := P) (l := T.cps.toList.drop p)
  have h := congrArg (List.drop run.length) e
  rw [← hrun, List.drop_append_of_le_length (by rw [len_list]; exact Nat.le_refl _), List.drop_drop] at h
  have h2 : List.drop run.length run.cps.toList = [] := List.drop_eq_nil_of_le (by rw [len_list]; exact Nat.le_refl _)
  rw [h2, List.nil_append] at h
  rw [hrem]
  exact h
theorem spot_eq {f : Fx} {c : St} {raw T : Str} {place : Int} {n : Nat} (h0 : 0 ≤ place) (h1 : place + (n : Int) ≤ T.length) (hfr : f.raw = raw) (hT : T.cps.toList = mend raw.cps.toList) (hrem : remT f c = T.cps.toList.drop (place.toNat + n)) :
    (mend f.raw.cps.toList).take ((mend f.raw.cps.toList).length - (remT f c).length) = T.cps.toList.take (place + (n : Int)).toNat := by
  rw [hfr, ← hT, hrem, List.length_drop, len_list]
  congr 1
  omega
theorem place_rem {f : Fx} {c : St} {T : Str} {place : Int} {n : Nat} (h0 : 0 ≤ place) (hrem : remT f c = T.cps.toList.drop (place.toNat + n)) : remT f c = T.cps.toList.drop (place + (n : Int)).toNat := by
  rw [hrem]
  congr 1
  omega
theorem item_head {T : Str} {p : Int} {ch : Nat} {tl : List Nat} (h0 : 0 ≤ p) (h : T.cps.toList.drop p.toNat = ch :: tl) : p < T.length ∧ Txt.item T p = ⟨#[ch]⟩ ∧ tl = T.cps.toList.drop (p + 1).toNat := by
  have hlt : p.toNat < T.cps.toList.length := by
    apply Decidable.byContradiction
    intro hn
    rw [List.drop_eq_nil_of_le (by omega)] at h
    cases h
  have hl := len_list T
  rw [List.drop_eq_getElem_cons hlt] at h
  injection h with h1 h2
  refine ⟨by omega, item_meets h0 ?_, ?_⟩
  · rw [← Array.getElem?_toList, ← h1]
    exact List.getElem?_eq_getElem hlt
  · have e : (p + 1).toNat = p.toNat + 1 := by omega
    rw [e, h2]
theorem char_none {R : List Nat} {T : Str} {p : Int} (h0 : 0 ≤ p) (hrem : R = T.cps.toList.drop p.toNat) (hc : R = []) : ¬ p < (T.length : Int) := by
  intro hlt
  have hl := len_list T
  have := congrArg List.length (hrem.symm.trans hc)
  rw [List.length_drop, List.length_nil] at this
  omega
theorem char_some {R : List Nat} {T : Str} {p : Int} {ch : Nat} {tl : List Nat} (h0 : 0 ≤ p) (hrem : R = T.cps.toList.drop p.toNat) (hc : R = ch :: tl) : p < (T.length : Int) ∧ Txt.item T p = ⟨#[ch]⟩ ∧ tl = T.cps.toList.drop (p + 1).toNat :=
  item_head h0 (hrem.symm.trans hc)
theorem min_none {f : Fx} {c : St} {T : Str} {p : Int} (h0 : 0 ≤ p) (h1 : p ≤ T.length) (hn : ¬ p < (T.length : Int)) (hc : remT f c = []) : 0 ≤ (if (T.length : Int) < p + 1 then (T.length : Int) else p + 1) ∧ (if (T.length : Int) < p + 1 then (T.length : Int) else p + 1) ≤ T.length ∧ remT f c = T.cps.toList.drop ((if (T.length : Int) < p + 1 then (T.length : Int) else p + 1)).toNat := by
  have e : (if (T.length : Int) < p + 1 then (T.length : Int) else p + 1) = T.length := by split <;> omega
  rw [e]
  refine ⟨by omega, by omega, ?_⟩
  rw [hc, List.drop_eq_nil_of_le (by rw [len_list]; omega)]
theorem min_some {f : Fx} {c : St} {T : Str} {p : Int} {ch : Nat} {tl R : List Nat} (h0 : 0 ≤ p) (hrem : R = T.cps.toList.drop p.toNat) (hc : R = ch :: tl) (hc2 : remT f c = tl) : 0 ≤ (if (T.length : Int) < p + 1 then (T.length : Int) else p + 1) ∧ (if (T.length : Int) < p + 1 then (T.length : Int) else p + 1) ≤ T.length ∧ remT f c = T.cps.toList.drop ((if (T.length : Int) < p + 1 then (T.length : Int) else p + 1)).toNat := by
  obtain ⟨h1, _, h3⟩ := char_some h0 hrem hc
  have e : (if (T.length : Int) < p + 1 then (T.length : Int) else p + 1) = p + 1 := by split <;> omega
  rw [e]
  exact ⟨by omega, by omega, hc2.trans h3⟩
theorem news_back {h₀ h : Heap} {L : Addr} {a b : List (Addr × Obj)} {x y : Addr × Obj} (N : News h₀ L h (a ++ (x :: y :: b))) : News h₀ L h ((a ++ [y]) ++ b) :=
  cb_drop N fun p hp => by
    simp only [List.mem_append, List.mem_cons, List.not_mem_nil, or_false] at hp ⊢
    rcases hp with (h | h) | h
    · exact .inl h
    · exact .inr (.inr (.inl h))
    · exact .inr (.inr (.inr h))
theorem news_front {h₀ h : Heap} {L : Addr} {a b : List (Addr × Obj)} {x : Addr × Obj} (N : News h₀ L h (x :: (a ++ b))) : News h₀ L h (a ++ (x :: b)) :=
  cb_drop N fun p hp => by
    simp only [List.mem_append, List.mem_cons] at hp ⊢
    rcases hp with h | h | h
    · exact .inr (.inl h)
    · exact .inl h
    · exact .inr (.inr h)
theorem all_run {l : List Nat} : l.takeWhile (fun ch => (([] : List Str).any (· == (⟨#[ch]⟩ : Str))) == false) = l ∧ l.dropWhile (fun ch => (([] : List Str).any (· == (⟨#[ch]⟩ : Str))) == false) = [] := by
  induction l with
  | nil => exact ⟨rfl, rfl⟩
  | cons a r ih =>
    refine ⟨?_, ?_⟩
    · rw [List.takeWhile_cons_of_pos (by rfl), ih.1]
    · rw [List.dropWhile_cons_of_pos (by rfl), ih.2]
theorem until_end {f : Fx} {c c' : St} {x : Str} {l : List Nat} (hrem : remT f c = l) (hx : x.cps.toList = (remT f c).takeWhile (fun ch => (([] : List Str).any (· == (⟨#[ch]⟩ : Str))) == false)) (hm : remT f c' = (remT f c).dropWhile (fun ch => (([] : List Str).any (· == (⟨#[ch]⟩ : Str))) == false)) : x.cps.toList = l ∧ remT f c' = [] := by
  rw [all_run.1, hrem] at hx
  rw [all_run.2] at hm
  exact ⟨hx, hm⟩
def flt (c : Nat) : Bool := (["\x01", "\ufdd0"] : List Str).any (· == (⟨#[c]⟩ : Str))
theorem flt_good {c : Nat} (h : goodSign c) : flt c = inv (c : Int) := by
  have : ∀ d ∈ [97, 98, 13, 10, 1, 32, 64976, 233, 0, 128512], flt d = inv (d : Int) := by decide +kernel
  exact this c h
theorem flt_bad {l : List Nat} (h : ∀ c ∈ l, goodSign c) : (l.filter flt).length = bad l := by
  unfold bad
  congr 1
  exact List.filter_congr fun c hc => flt_good (h c hc)
theorem law_off3b {w : World} {f : Fx} {c : St} {tl : Addr} {o : Obj} (hf : f.Ok) (h : @LT.lt Nat _ tl f.dq) : OwnOff [(tl, o)] ((Led w f c).map (·.1)) := by
  obtain ⟨h1, h2, h3, h4, h5, h6⟩ := hf
  intro p hp b hb
  simp only [Led, List.map_cons, List.map_nil, List.mem_cons, List.not_mem_nil, or_false] at hp hb
  subst hp
  rcases hb with rfl | rfl | rfl | rfl | rfl | rfl <;> (intro e; dsimp only at e; subst e; omega)
theorem law_off6 {w : World} {f : Fx} {c : St} {D : Addr} {o : Obj} {r : List (Addr × Obj)} (hD : ∀ p ∈ Led w f c ++ r, p.1 ≠ D) (h : OwnOff r ((Led w f c).map (·.1))) : OwnOff ((D, o) :: r) ((Led w f c).map (·.1)) := by
  intro p hp b hb
  rcases List.mem_cons.mp hp with rfl | hp
  · obtain ⟨q, hq, rfl⟩ := List.mem_map.mp hb
    exact fun e => hD q (List.mem_append.mpr (.inl hq)) e.symm
  · exact h p hp b hb
theorem errs_strs : ∀ {vs : List Value} {n : Nat}, ErrsAre vs n → StrsAre vs (List.replicate n "invalid-codepoint")
  | [], n, h => by
    have : n = 0 := h.1.symm
    subst this
    exact .nil
  | v :: r, n, h => by
    obtain ⟨h1, h2⟩ := h
    obtain ⟨t, rfl⟩ := h2 _ List.mem_cons_self
    rw [← h1, List.length_cons, List.replicate_succ]
    exact .cons _ _ (errs_strs ⟨rfl, fun v hv => h2 v (List.mem_cons_of_mem _ hv)⟩)
theorem mend_nil : ∀ {l : List Nat}, mend l = [] → l = []
  | [], _ => rfl
  | c :: r, h => by
    exfalso
    have e : mendFrom false (c :: r) = if c = 13 then 10 :: mendFrom true r else if c = 10 ∧ false = true then mendFrom false r else c :: mendFrom false r := rfl
    have h' : mendFrom false (c :: r) = [] := h
    rw [e] at h'
    split at h'
    · cases h'
    · rw [if_neg (by simp)] at h'
      cases h'
theorem errs_end {f : Fx} {c : St} {pre : List Nat} {raw : Str} (hI : Inv f c pre) (hrem : remT f c = []) (hfr : f.raw = raw) : StrsAre c.errs (List.replicate (bad raw.cps.toList) "invalid-codepoint") := by
  have h1 := (List.append_eq_nil_iff.mp hrem).2
  have h2 : restl f c = [] := mend_nil h1
  have h3 := (List.append_eq_nil_iff.mp h2).2
  have h4 : f.raw.cps.toList.take c.place.toNat = f.raw.cps.toList := by
    have := List.take_append_drop c.place.toNat f.raw.cps.toList
    rw [h3, List.append_nil] at this
    exact this
  have h5 := hI.herr
  rw [h4, hfr] at h5
  exact errs_strs h5
end

section
open PySem.Spec PySem.Calls PyProof.Rows.LCg
section
variable {prog : Program} {w : World} {A : Around} {E : Value → Shared → Prop} {s : Shared} {h₀ : Heap} {L : Addr} {m : PySem.Str → Option Value} {env : Env}
theorem comp_loop_pt {elt target iter : Expr} {ifs : List Expr} {scope : Scope} {pos : Pos} {it acc : Value} {env : Env} {R : Result → Shared → Prop} (I : Nat → Shared → Prop)
    (turn : ∀ n s, I n s → wpAny (model prog w) A (pyNext it) (fun r s₁ => match r with
      | none => R (.ok .next) s₁
      | some v => wpAny (model prog w) A (letOwnedTupleGo target it v) (fun _ s₁' => wpAny (model prog w) A (assign target env v) (fun _ s₂ =>
          wpAny (model prog w) A (forIn ifs true fun c r => if r = true then do let ok ← isTrue c env (eval c env); pure (ForInStep.yield ok) else pure (ForInStep.yield r)) (fun ok s₃ =>
            if ok = true then wpAny (model prog w) A (eval elt env) (fun x s₄ =>
              wpAny (model prog w) A (call (.builtin "list.append") [acc, x]) (fun _ s₅ => ∃ m, m < n ∧ I m s₅) (notedBy (model prog w) A env fun e s' => R (.error e) s') s₄) (notedBy (model prog w) A env fun e s' => R (.error e) s') s₃
            else ∃ m, m < n ∧ I m s₃) (notedBy (model prog w) A env fun e s' => R (.error e) s') s₂) (notedBy (model prog w) A env fun e s' => R (.error e) s') s₁') (notedBy (model prog w) A env fun e s' => R (.error e) s') s₁) (notedBy (model prog w) A env fun e s' => R (.error e) s') s)
    (n : Nat) (h : I n s) :
    codeAny (model prog w) A (.compLoop (.ListComp elt [⟨target, iter, ifs, 0⟩] scope pos) 0 it acc env) R s := by
  refine codeAny_loop rfl I (fun n s hI => ?_) n h
  show wpAny _ A ((compTurn (.ListComp elt [⟨target, iter, ifs, 0⟩] scope pos) 0 it acc env).onRaise (fun x => do noteFrame x env; theTreesLotGoes x)) _ _ s
  refine wpAny_noted ?_
  rw [compTurn_list]
  refine wpAny_bind (wpAny_standAt (wpAny_bind (wpAny_mono (turn n s hI) (fun r s₁ h₁ => ?_) fun _ _ h' => h')))
  cases r with
  | none => exact wpAny_pure h₁
  | some v =>
    refine wpAny_bind (wpAny_mono h₁ (fun _ s₁' h₁' => ?_) fun _ _ h' => h')
    refine wpAny_bind (wpAny_mono h₁' (fun _ s₂ h₂ => wpAny_bind (wpAny_mono h₂ (fun ok s₃ h₃ => ?_) fun _ _ h' => h')) fun _ _ h' => h')
    cases ok with
    | false => exact wpAny_pure ⟨rfl, h₃⟩
    | true =>
      exact wpAny_bind (wpAny_bind (wpAny_mono h₃ (fun x s₄ h₄ => wpAny_bind (wpAny_mono h₄ (fun _ s₅ h₅ => wpAny_pure (wpAny_pure ⟨rfl, h₅⟩)) fun _ _ h' => h')) fun _ _ h' => h'))

def TEnd (h₀ : Heap) (L : Addr) (m : PySem.Str → Option Value) (s₁ : Shared) (led : List (Addr × Obj)) (s₂ : Shared) : Prop :=
  ∃ h' tk, s₂ = { s₁ with heap := h', toks := tk } ∧ Fr h₀ L h' m ∧ News h₀ L h' led
/-- a turn's test and element: any test that answers, and an element that is the list's item itself -/
def ETurn (prog : Program) (w : World) (A : Around) (h₀ : Heap) (L : Addr) (m : PySem.Str → Option Value) (env : Env) (ct elt : Expr) (x x₂ : PySem.Str) (scope : Scope) (cl : List (PySem.Str × Addr)) (s : Shared) (its : Array Value) (news : List (Addr × Obj)) : Prop :=
  ∀ (i : Nat) (v : Value) (t : Tok) e oe it oi C oC D ys m₂ h tk (E' : Value → Shared → Prop), its[i]? = some v → NsObj oC m₂ → m₂ x = some (.int i t) → m₂ x₂ = some v → Fr h₀ L h m → News h₀ L h ((e, oe) :: (it, oi) :: (C, oC) :: (D, lst ys) :: news) →
    wpAny (model prog w) A (isTrue ct (compEnvC scope cl C env) (eval ct (compEnvC scope cl C env))) (fun ok s' => if ok = true then
      wpAny (model prog w) A (eval elt (compEnvC scope cl C env)) (fun y s'' => y = v ∧ TEnd h₀ L m s ((e, oe) :: (it, oi) :: (C, oC) :: (D, lst ys) :: news) s'') E' s'
      else TEnd h₀ L m s ((e, oe) :: (it, oi) :: (C, oC) :: (D, lst ys) :: news) s') E' { s with heap := h, toks := tk }

theorem enum_loop {ct elt iter : Expr} {x x₂ : PySem.Str} {px px₂ tp : Pos} {tk₀} {scope : Scope} {cl : List (PySem.Str × Addr)} {pos : Pos} {e it l C D : Addr} {its : Array Value} {news : List (Addr × Obj)} {R : Result → Shared → Prop} {mC : PySem.Str → Option Value}
    (hh : A.handled = none) (hei : e ≠ it) (hle : l ≠ e) (hli : l ≠ it) (hsz : its.size ≤ sizeLine) (hkind : scope.kind = .function) (hx : scope.names.lookup x = some .local) (hx₂ : scope.names.lookup x₂ = some .local) (hxx : x ≠ x₂)
    (hCe : C ≠ e) (hCi : C ≠ it) (hDe : D ≠ e) (hDi : D ≠ it) (hCD : C ≠ D) (hLe : L ≠ e) (hLi : L ≠ it) (hCL : C ≠ L) (hDL : D ≠ L) (he₀ : h₀.get? e = none) (hi₀ : h₀.get? it = none) (hC₀ : h₀.get? C = none) (hD₀ : h₀.get? D = none)
    (off : ∀ p ∈ news, p.1 ≠ e ∧ p.1 ≠ it ∧ p.1 ≠ C ∧ p.1 ≠ D) {lo : Obj} (hl : (l, lo) ∈ news)
    (he : ∃ old, IsEnum s.heap e it 0 old) (hit : s.heap.IsListIter it l 0) (hlist : s.heap.IsList l its)
    (F : Fr h₀ L s.heap m) (hC : s.heap.Ns C mC) (N : News h₀ L s.heap ((D, lst []) :: news))
    (turn : ETurn prog w A h₀ L m env ct elt x x₂ scope cl s its news)
    (done : ∀ h tk m' ys, Fr h₀ L h m → h.Ns C m' → News h₀ L h ((D, lst ys) :: news) → ys.Sublist its.toList → R (.ok .next) { s with heap := h, toks := tk }) :
    codeAny (model prog w) A (.compLoop (.ListComp elt [⟨.Tuple [.Name x px, .Name x₂ px₂] tk₀ tp, iter, [ct], 0⟩] scope pos) 0 (.ref e) (.ref D) (compEnvC scope cl C env)) R s := by
  have W := WalksT.enumerate (prog := prog) (w := w) (A := A) hh e it l hei hle hli its
  have hlC : l ≠ C := (off _ hl).2.2.1
  have hlD : l ≠ D := (off _ hl).2.2.2
  refine comp_loop_pt
    (fun k s' => ∃ h' tk i ys m', s' = { s with heap := h', toks := tk } ∧ i ≤ its.size ∧ k = its.size + 1 - i ∧ ((∃ old, IsEnum h' e it (i : Nat) old) ∧ h'.IsListIter it l i ∧ h'.IsList l its) ∧ Fr h₀ L h' m ∧ h'.Ns C m' ∧ News h₀ L h' ((D, lst ys) :: news) ∧ ys.Sublist (its.toList.take i)) ?_ (its.size + 1)
    ⟨s.heap, s.toks, 0, [], mC, rfl, Nat.zero_le _, rfl, ⟨he, hit, hlist⟩, F, hC, N, by simp⟩
  rintro k s' ⟨h', tk, i, ys, m', rfl, hi, rfl, hst', F', hn', N', hsub⟩
  have hyl : ys.length ≤ i := Nat.le_trans hsub.length_le (by rw [List.length_take]; exact Nat.min_le_left _ _)
  by_cases hlt : i < its.size
  · refine W.item i _ _ _ hlt hst' fun T vals h₂ tk₂ hPt hTsz hT hMid hk₂ => ?_
    refine W.go _ _ _ i T _ _ _ hMid fun h₃ hst₃ hk₃ => ?_
    have hTw := W.apart i T _ hMid
    have ht : IsTup h₃ T vals := hT.at fun o e' => hk₃ T o hTw e'
    obtain ⟨t, v, hv, rfl⟩ := hPt
    refine assign_Tuple_tuple hh ht rfl rfl fun h₅ he₅ => ?_
    have he' : ∀ b o, h₃.get? b = some o → h₅.get? b = some o := fun b o e => he₅ b o (Nat.ne_of_lt (Heap.lt_size e)) e
    have up3 : ∀ b o, b ≠ e → b ≠ it → h'.get? b = some o → h₃.get? b = some o := fun b o b1 b2 y => hk₃ b o (by simp [b1, b2]) (hk₂ b o (by simp [b1, b2]) y)
    refine assignInOrder_cons (wpAny_assign_Name (wpAny_storeName_local (lookup_relabel_local hx) ((hn'.at' fun o y => up3 _ o hCe hCi y).at' fun o y => he' _ o y) (fun h₆ hn₆ hs₆ => ?_) (by simp [compEnvC, relabel, hkind])))
    refine assignInOrder_cons (wpAny_assign_Name (wpAny_storeName_local (lookup_relabel_local hx₂) hn₆ (fun h₇ hn₇ hs₇ => ?_) (by simp [compEnvC, relabel, hkind])))
    refine assignInOrder_nil ?_
    refine wpAny_tests_one ?_
    have up7 : ∀ b o, b ≠ C → h₃.get? b = some o → h₇.get? b = some o := fun b o hb y => hs₇.extBut b o hb (hs₆.extBut b o hb (he' b o y))
    have up : ∀ b o, b ≠ e → b ≠ it → b ≠ C → h'.get? b = some o → h₇.get? b = some o := fun b o b1 b2 b3 y => up7 b o b3 (up3 b o b1 b2 y)
    have hst₇ := W.frame _ _ _ hst₃ fun b hb o y => up7 b o (by
      rcases List.mem_cons.mp hb with rfl | hb
      · exact Ne.symm hCe
      · rcases List.mem_cons.mp hb with rfl | hb
        · exact Ne.symm hCi
        · rw [List.mem_singleton.mp hb]; exact hlC) y
    obtain ⟨oe, hoe⟩ : ∃ oe, h₇.get? e = some oe := by obtain ⟨⟨old, y⟩, _⟩ := hst₇; exact ⟨_, y⟩
    obtain ⟨oi, hoi⟩ : ∃ oi, h₇.get? it = some oi := by obtain ⟨_, ⟨o, y, _⟩, _⟩ := hst₇; exact ⟨_, y⟩
    obtain ⟨oC, hoC, hnC⟩ := ns_obj hn₇
    have F₇ : Fr h₀ L h₇ m := ⟨F'.ns.at' fun o y => up _ o hLe hLi (Ne.symm hCL) y, fun b o y => up b o (fun q => by rw [q, he₀] at y; cases y) (fun q => by rw [q, hi₀] at y; cases y) (fun q => by rw [q, hC₀] at y; cases y) (F'.keep b o y), F'.above⟩
    have N₇ : News h₀ L h₇ ((e, oe) :: (it, oi) :: (C, oC) :: (D, lst ys) :: news) := fun p hp => by
      rcases List.mem_cons.mp hp with rfl | hp
      · exact ⟨hoe, Ne.symm hLe, he₀⟩
      rcases List.mem_cons.mp hp with rfl | hp
      · exact ⟨hoi, Ne.symm hLi, hi₀⟩
      rcases List.mem_cons.mp hp with rfl | hp
      · exact ⟨hoC, hCL, hC₀⟩
      have z := N' p hp
      refine ⟨?_, z.2⟩
      rcases List.mem_cons.mp hp with rfl | hp
      · exact up _ _ hDe hDi (Ne.symm hCD) z.1
      · have q := off p hp
        exact up _ _ q.1 q.2.1 q.2.2.1 z.1
    have back : ∀ s₂, TEnd h₀ L m s ((e, oe) :: (it, oi) :: (C, oC) :: (D, lst ys) :: news) s₂ → ∃ h₈ tk₈, s₂ = { s with heap := h₈, toks := tk₈ } ∧ ((∃ old, IsEnum h₈ e it ((i + 1 : Nat) : Int) old) ∧ h₈.IsListIter it l (i + 1) ∧ h₈.IsList l its) ∧ Fr h₀ L h₈ m ∧ (∃ m₈, h₈.Ns C m₈) ∧ News h₀ L h₈ ((D, lst ys) :: news) := by
      rintro s₂ ⟨h₈, tk₈, rfl, F₈, N₈⟩
      refine ⟨h₈, tk₈, rfl, W.frame _ _ _ hst₇ fun b hb o y => ?_, F₈, ⟨_, hnC.ns (N₈ (C, oC) (by simp)).1⟩, fun p hp => N₈ p (List.mem_cons_of_mem _ (List.mem_cons_of_mem _ (List.mem_cons_of_mem _ hp)))⟩
      rcases List.mem_cons.mp hb with rfl | hb
      · rw [hoe] at y; rw [← y]; exact (N₈ _ List.mem_cons_self).1
      rcases List.mem_cons.mp hb with rfl | hb
      · rw [hoi] at y; rw [← y]; exact (N₈ _ (List.mem_cons_of_mem _ List.mem_cons_self)).1
      rw [List.mem_singleton.mp hb] at y ⊢
      have z₇ := (N₇ (l, lo) (by simp [hl])).1
      rw [z₇] at y; rw [← y]
      exact (N₈ (l, lo) (by simp [hl])).1
    have htk : its.toList.take (i + 1) = its.toList.take i ++ [v] := by
      have hv' : its.toList[i]? = some v := by rw [Array.getElem?_toList]; exact hv
      simp [List.take_add_one, hv']
    refine wpAny_mono (turn i v t e oe it oi C oC D ys _ h₇ _ _ hv hnC (by simp [hxx]) (by simp) F₇ N₇) (fun ok s₄ h₄ => ?_) fun _ _ y => y
    cases ok with
    | true =>
      simp only [if_true] at h₄ ⊢
      refine wpAny_mono h₄ (fun y s₅ h₅ => ?_) fun _ _ y => y
      obtain ⟨rfl, hb⟩ := h₅
      obtain ⟨h₈, tk₈, rfl, hst₈, F₈, ⟨m₈, hn₈⟩, N₈⟩ := back _ hb
      refine append_at (hsz := by show ys.toArray.size ≤ sizeLine; rw [List.size_toArray]; exact Nat.le_trans (Nat.le_trans hyl hi) hsz) (N₈ _ List.mem_cons_self).1 fun h₉ hs₉ hD₉ => ?_
      refine ⟨its.size + 1 - (i + 1), by omega, h₉, tk₈, i + 1, ys ++ [y], m₈, rfl, hlt, rfl, W.frame _ _ _ hst₈ fun b hb o z => hs₉.extBut b o ?_ z, F₈.change hs₉ hDL hD₀, hn₈.sameBut hs₉ hCD, fun p hp => ?_, ?_⟩
      · rcases List.mem_cons.mp hb with rfl | hb
        · exact Ne.symm hDe
        rcases List.mem_cons.mp hb with rfl | hb
        · exact Ne.symm hDi
        · rw [List.mem_singleton.mp hb]; exact hlD
      · rcases List.mem_cons.mp hp with rfl | hp
        · exact ⟨hD₉.trans (congrArg some (lst_snoc ys y)), hDL, hD₀⟩
        · have z := N₈ p (List.mem_cons_of_mem _ hp)
          exact ⟨hs₉.extBut _ _ (off p hp).2.2.2 z.1, z.2⟩
      · rw [htk]; exact hsub.append (List.Sublist.refl _)
    | false =>
      simp only [Bool.false_eq_true, if_false] at h₄ ⊢
      obtain ⟨h₈, tk₈, rfl, hst₈, F₈, ⟨m₈, hn₈⟩, N₈⟩ := back _ h₄
      refine ⟨its.size + 1 - (i + 1), by omega, h₈, tk₈, i + 1, ys, m₈, rfl, hlt, rfl, hst₈, F₈, hn₈, N₈, ?_⟩
      rw [htk]; exact hsub.trans (List.sublist_append_left _ _)
  · obtain rfl : i = its.size := Nat.le_antisymm hi (Nat.not_lt.mp hlt)
    refine W.done _ _ _ hst' fun h₂ tk₂ hk₂ => ?_
    have up3 : ∀ b o, b ≠ e → b ≠ it → h'.get? b = some o → h₂.get? b = some o := fun b o b1 b2 y => hk₂ b o (by simp [b1, b2]) y
    refine done h₂ tk₂ m' ys ⟨F'.ns.at' fun o y => up3 _ o hLe hLi y, fun b o y => up3 b o (fun q => by rw [q, he₀] at y; cases y) (fun q => by rw [q, hi₀] at y; cases y) (F'.keep b o y), F'.above⟩ (hn'.at' fun o y => up3 _ o hCe hCi y) (fun p hp => ⟨?_, (N' p hp).2⟩) ?_
    · rcases List.mem_cons.mp hp with rfl | hp
      · exact up3 _ _ hDe hDi (N' _ List.mem_cons_self).1
      · exact up3 _ _ (off p hp).1 (off p hp).2.1 (N' p (List.mem_cons_of_mem _ hp)).1
    · exact hsub.trans (List.take_sublist _ _)

theorem enum_block {ct elt iter : Expr} {x x₂ : PySem.Str} {px px₂ tp : Pos} {tk₀} {scope : Scope} {cl : List (PySem.Str × Addr)} {pos : Pos} {s₂ : Shared} {e it l : Addr} {its : Array Value} {news : List (Addr × Obj)} {RR : Value → Addr → Result → Shared → Prop}
    (hh : A.handled = none) (hei : e ≠ it) (hle : l ≠ e) (hli : l ≠ it) (hsz : its.size ≤ sizeLine) (hcell : ∀ y ∈ scope.names, y.2 ≠ .cell) (hkind : scope.kind = .function) (hx : scope.names.lookup x = some .local) (hx₂ : scope.names.lookup x₂ = some .local) (hxx : x ≠ x₂)
    (hLe : L ≠ e) (hLi : L ≠ it) (he₀ : h₀.get? e = none) (hi₀ : h₀.get? it = none) (off : ∀ p ∈ news, p.1 ≠ e ∧ p.1 ≠ it) {lo : Obj} (hl : (l, lo) ∈ news)
    (he : ∃ old, IsEnum s₂.heap e it 0 old) (hit : s₂.heap.IsListIter it l 0) (hlist : s₂.heap.IsList l its) (F : Fr h₀ L s₂.heap m) (N : News h₀ L s₂.heap news)
    (turn : ETurn prog w A h₀ L m env ct elt x x₂ scope cl s₂ its news)
    (hRR : ∀ D C h tk m' ys, Fr h₀ L h m → News h₀ L h ((D, lst ys) :: news) → (∀ p ∈ news, p.1 < D) → h.Ns C m' → h₀.get? C = none → h₀.get? D = none → C ≠ L → D ≠ L → C ≠ D → (∀ p ∈ news, p.1 ≠ C) → ys.Sublist its.toList → RR (.ref D) C (.ok .next) { s₂ with heap := h, toks := tk }) :
    wpAny (model prog w) A (newList []) (fun acc s₃ => wpAny (model prog w) A (newFunctionEnv scope env.globals cl [] env.qual none .none (some env)) (fun cenv s₄ =>
      codeAny (model prog w) A (.compStart (.ListComp elt [⟨.Tuple [.Name x px, .Name x₂ px₂] tk₀ tp, iter, [ct], 0⟩] scope pos) 0 (.ref e) acc { cenv with scope := relabel scope env }) (RR acc cenv.locals) s₄) E s₃) E s₂ := by
  refine wpAny_newObj_type (wpAny_newFunctionEnv hcell (by intro y hy; simp at hy) (fun h₁ hns₁ hsb₁ => ?_) hkind)
  dsimp only at hns₁ hsb₁ ⊢
  generalize hH2 : s₂.heap.push { cls := .type "list", dict := none, data := .seq ([] : List Value).toArray } = H2 at hns₁ hsb₁ ⊢
  have hC : H2.objs.size = s₂.heap.objs.size + 1 := by rw [← hH2, Heap.size_push]
  have hDC : s₂.heap.objs.size ≠ H2.objs.size := by rw [hC]; exact Nat.ne_of_lt (Nat.lt_succ_self _)
  have below : ∀ b, b < s₂.heap.objs.size → b ≠ H2.objs.size ∧ b ≠ s₂.heap.objs.size := fun b hb => ⟨by rw [hC]; exact Nat.ne_of_lt (Nat.lt_succ_of_lt hb), Nat.ne_of_lt hb⟩
  have helt : e < s₂.heap.objs.size := by obtain ⟨_, y⟩ := he; exact Heap.lt_size y
  have hilt : it < s₂.heap.objs.size := by obtain ⟨_, y, _⟩ := hit; exact Heap.lt_size y
  have old : ∀ b o, s₂.heap.get? b = some o → h₁.get? b = some o := fun b o e => hsb₁.extBut b o (below b (Heap.lt_size e)).1 (Heap.get?_push_of_some _ (hH2 ▸ Heap.get?_push_of_some _ e))
  have hacc : h₁.get? s₂.heap.objs.size = some (lst []) := hsb₁.extBut _ _ hDC (Heap.get?_push_of_some _ (hH2 ▸ Heap.get?_push_size _ rfl))
  have fresh : ∀ a, s₂.heap.objs.size ≤ a → s₂.heap.get? a = none := fun a ha => by
    cases e : s₂.heap.get? a with
    | none => rfl
    | some o' => exact absurd (Heap.lt_size e) (Nat.not_lt.mpr ha)
  have fresh₀ : ∀ a, s₂.heap.objs.size ≤ a → h₀.get? a = none := fun a ha => by
    cases e : h₀.get? a with
    | none => rfl
    | some o' => have := F.keep a o' e; rw [fresh a ha] at this; cases this
  have hD₀ : h₀.get? s₂.heap.objs.size = none := fresh₀ _ (Nat.le_refl _)
  have hC₀ : h₀.get? H2.objs.size = none := fresh₀ _ (by rw [hC]; exact Nat.le_succ _)
  have hLlt : L < s₂.heap.objs.size := F.ns.lt
  have hDL : s₂.heap.objs.size ≠ L := Ne.symm (below L hLlt).2
  have hCL : H2.objs.size ≠ L := Ne.symm (below L hLlt).1
  have hE₁ : ∃ o', IsEnum h₁ e it 0 o' := by obtain ⟨o', y⟩ := he; exact ⟨o', old _ _ y⟩
  have loop : ∀ s₃ : Shared, s₃ = { s₂ with heap := h₁, toks := s₂.toks + ([] : List (PySem.Str × Value)).length } →
      codeAny (model prog w) A (.compLoop (.ListComp elt [⟨.Tuple [.Name x px, .Name x₂ px₂] tk₀ tp, iter, [ct], 0⟩] scope pos) 0 (.ref e) (.ref s₂.heap.objs.size) (compEnvC scope cl H2.objs.size env))
        (RR (.ref s₂.heap.objs.size) H2.objs.size) s₃ := by
    rintro s₃ rfl
    refine enum_loop (news := news) (m := m) (h₀ := h₀) (L := L) hh hei hle hli hsz hkind hx hx₂ hxx (Ne.symm (below e helt).1) (Ne.symm (below it hilt).1) (Ne.symm (below e helt).2) (Ne.symm (below it hilt).2) (Ne.symm hDC) hLe hLi hCL hDL he₀ hi₀ hC₀ hD₀ (fun p hp => ⟨(off p hp).1, (off p hp).2, (below _ (Heap.lt_size (N p hp).1)).1, (below _ (Heap.lt_size (N p hp).1)).2⟩) hl hE₁ (hit.at fun o y => old _ _ y) (hlist.at fun o y => old _ _ y) (F.keeps old) hns₁ (fun p hp => ?_) turn ?_
    · rcases List.mem_cons.mp hp with rfl | hp
      · exact ⟨hacc, hDL, hD₀⟩
      · exact ⟨old _ _ (N p hp).1, (N p hp).2⟩
    · intro h tk m' ys F' hn' N' hsub
      exact hRR _ _ h tk m' ys F' N' (fun p hp => Heap.lt_size (N p hp).1) hn' hC₀ hD₀ hCL hDL (Ne.symm hDC) (fun p hp => (below _ (Heap.lt_size (N p hp).1)).1) hsub
  obtain ⟨o', hE'⟩ := hE₁
  exact codeAny_compStart_list (loop _ rfl) (wpAny_pyIter_enum hE' (loop _ rfl))

/-- what the iterable must come to: an enumerate over a list of the ledger; the turns; what follows -/
def SrcEn (prog : Program) (w : World) (A : Around) (h₀ : Heap) (L : Addr) (m : PySem.Str → Option Value) (env : Env) (ct elt : Expr) (x x₂ y : PySem.Str) (scope : Scope) (cl : List (PySem.Str × Addr)) (Q : Flow → Shared → Prop) (xv : Value) (s₁ : Shared) : Prop :=
  ∃ (e it l : Addr) (lo : Obj) (its : Array Value) (news : List (Addr × Obj)), xv = .ref e ∧ A.handled = none ∧ Fr h₀ L s₁.heap m ∧ News h₀ L s₁.heap news ∧ (l, lo) ∈ news ∧ its.size ≤ sizeLine ∧ IsEnum s₁.heap e it 0 .none ∧ s₁.heap.IsListIter it l 0 ∧ s₁.heap.IsList l its ∧
    e ≠ it ∧ (∀ p ∈ news, p.1 ≠ e ∧ p.1 ≠ it) ∧ L ≠ e ∧ L ≠ it ∧ h₀.get? e = none ∧ h₀.get? it = none ∧ ETurn prog w A h₀ L m env ct elt x x₂ scope cl s₁ its news ∧
    ∀ D ys h tk, (∀ p ∈ news, p.1 < D) → ys.Sublist its.toList → Fr h₀ L h (fun z => if z = y then some (.ref D) else m z) → News h₀ L h ((D, lst ys) :: news) → Q .next { s₁ with heap := h, toks := tk }
theorem srcEn_call {ct elt : Expr} {x x₂ y : PySem.Str} {scope : Scope} {cl : List (PySem.Str × Addr)} {Q : Flow → Shared → Prop} {l : Addr} {its : Array Value} {k : Nat} {news : List (Addr × Obj)}
    (hh : A.handled = none) (F : Fr h₀ L s.heap m) (N : News h₀ L s.heap news) (hm : (l, ({ cls := .type "list", data := .seq its k } : Obj)) ∈ news) (hsz : its.size ≤ sizeLine)
    (turn : ETurn prog w A h₀ L m env ct elt x x₂ scope cl s its news)
    (fin : ∀ D ys h tk, (∀ p ∈ news, p.1 < D) → ys.Sublist its.toList → Fr h₀ L h (fun z => if z = y then some (.ref D) else m z) → News h₀ L h ((D, lst ys) :: news) → Q .next { s with heap := h, toks := tk }) :
    wpAny (model prog w) A (call (.type "enumerate") [.ref l]) (SrcEn prog w A h₀ L m env ct elt x x₂ y scope cl Q) E s := by
  have hl : s.heap.IsList l its := ⟨_, (N _ hm).1, rfl, k, rfl⟩
  refine call_enumerate_list hl fun h' hE hI hz hk => ?_
  have lt : ∀ p ∈ news, p.1 < s.heap.objs.size := fun p hp => Heap.lt_size (N p hp).1
  have hLs : L < s.heap.objs.size := F.ns.lt
  have fresh₀ : ∀ a, s.heap.objs.size ≤ a → h₀.get? a = none := fun a ha => by
    cases e : h₀.get? a with
    | none => rfl
    | some o' => exact absurd (Heap.lt_size (F.keep a o' e)) (Nat.not_lt.mpr ha)
  exact ⟨_, _, l, _, its, news, rfl, hh, F.keeps hk, N.grown hk, hm, hsz, hE, hI, hl.at fun o e => hk _ _ e, Nat.succ_ne_self _, fun p hp => ⟨Nat.ne_of_lt (Nat.lt_succ_of_lt (lt p hp)), Nat.ne_of_lt (lt p hp)⟩, Nat.ne_of_lt (Nat.lt_succ_of_lt hLs), Nat.ne_of_lt hLs, fresh₀ _ (Nat.le_succ _), fresh₀ _ (Nat.le_refl _), turn, fin⟩

theorem assign_enum_comp {ct elt iter : Expr} {x x₂ y : PySem.Str} {px px₂ tp py : Pos} {tk₀} {scope : Scope} {cl : List (PySem.Str × Addr)} {pos spos : Pos} {Q : Flow → Shared → Prop} (F₀ : Fr h₀ L s.heap m) (hLe : env.locals = L)
    (hsw : swapsWith (.ListComp elt [⟨.Tuple [.Name x px, .Name x₂ px₂] tk₀ tp, iter, [ct], 0⟩] scope pos) (some (.Name y py)) spos.line env = pure true)
    (hclos : closureFor scope env = pure cl) (hcell : ∀ z ∈ scope.names, z.2 ≠ .cell) (hkind : scope.kind = .function)
    (hnames : ∀ z ∈ scope.names, z.2 = .local → scope.names.lookup z.1 = some .local) (hx : scope.names.lookup x = some .local) (hx₂ : scope.names.lookup x₂ = some .local) (hxx : x ≠ x₂)
    (hy : env.kindOf y = some .local) (hp : (env.scope.kind == .class || (env.scope.kind == .module && env.locals != env.globals)) = false)
    (h : wpAny (model prog w) A (eval iter env) (SrcEn prog w A h₀ L m env ct elt x x₂ y scope cl Q) E s)
    (hs : ∀ x, foldedSetIterable iter env x = pure x := by intro _; rfl) :
    wpAny (model prog w) A (exec (.Assign [.Name y py] (.ListComp elt [⟨.Tuple [.Name x px, .Name x₂ px₂] tk₀ tp, iter, [ct], 0⟩] scope pos) spos) env) Q E s := by
  subst hLe
  rw [exec_Assign_Name_used _ _ _ _ hsw]
  refine wpAny_bind (wpAny_standAt (wpAny_bind ?_))
  show wpAny _ A (do let _ ← comprehension (.ListComp elt [⟨.Tuple [.Name x px, .Name x₂ px₂] tk₀ tp, iter, [ct], 0⟩] scope pos) scope env _ (newList []) false (eval iter env) (some (assign (.Name y py) env))) _ _ s
  refine wpAny_bind (wpAny_mono (wpAny_comprehension_free (use := some (assign (.Name y py) env)) (Q := fun _ s' => Q .next s') rfl hs hclos hkind hnames
    (wpAny_mono h (fun xv s₁ h₁ => ?_) fun _ _ e => e)) (fun _ s' hq => wpAny_pure (wpAny_pure hq)) fun _ _ e => e)
  obtain ⟨e, it, l, lo, its, news, rfl, hh, F, N, hl, hsz, hE, hI, hlist, hei, off, hLe, hLi, he₀, hi₀, turn, fin⟩ := h₁
  refine wpAny_pyIter_enum hE ?_
  refine enum_block hh hei (off _ hl).1 (off _ hl).2 hsz hcell hkind hx hx₂ hxx hLe hLi he₀ hi₀ off hl ⟨_, hE⟩ hI hlist F N turn ?_
  intro D C h' tk m' ys F' N' hlt hn hC₀ hD₀ hCL hDL hCD offC hsub
  show wpAny _ A (assign (.Name y py) env (.ref D)) _ _ _
  refine wpAny_assign_Name (wpAny_storeName_local hy F'.ns (fun h₂ hn₂ hs₂ => ?_) hp)
  have hL₀ : h₀.get? env.locals = none := Heap.get?_none_of_le F'.above
  have F₂ : Fr h₀ env.locals h₂ (fun z => if z = y then some (.ref D) else m z) := ⟨hn₂, fun b o e => hs₂.extBut b o (fun q => by rw [q, hL₀] at e; cases e) (F'.keep b o e), F'.above⟩
  refine ⟨m', hn.sameBut hs₂ hCL, fun h'' hs'' => fin D ys h'' _ hlt hsub (F₂.change hs'' hCL hC₀) (fun p hp => ?_)⟩
  have z : h₂.get? p.1 = some p.2 := hs₂.extBut _ _ (N' p hp).2.1 (N' p hp).1
  refine ⟨hs''.extBut _ _ ?_ z, (N' p hp).2⟩
  rcases List.mem_cons.mp hp with rfl | hp
  · exact Ne.symm hCD
  · exact offC p hp
end
end

section
open PySem.Spec PySem.Calls PyProof.Rows.LCg PyProof.Rows.LCt
section
variable {prog : Program} {w : World} {A : Around} {E : Value → Shared → Prop} {s : Shared} {h₀ : Heap} {L : Addr} {m : PySem.Str → Option Value} {env : Env}
/-- what the iterable must come to: a text; the turns -/
def SrcTx (prog : Program) (w : World) (A : Around) (h₀ : Heap) (L : Addr) (m : PySem.Str → Option Value) (env : Env) (ct elt : Expr) (x y : PySem.Str) (scope : Scope) (cl : List (PySem.Str × Addr)) (Q : Flow → Shared → Prop) (xv : Value) (s₁ : Shared) : Prop :=
  ∃ (tx : PySem.Str) (tt : Tok) (news : List (Addr × Obj)), xv = .str tx tt ∧ A.handled = none ∧ Fr h₀ L s₁.heap m ∧ News h₀ L s₁.heap news ∧ tx.cps.size ≤ sizeLine ∧
    ∀ s₂ : Shared, (∃ h, s₂ = { s₁ with heap := h }) → CompRestT prog w A h₀ L m env ct elt x scope cl s₂ (fun _ => True) (SignAt tx) (FinA h₀ L m s₂ y Q) tx.cps.size 0 [] news
theorem assign_text_comp {ct elt iter : Expr} {x y : PySem.Str} {px py : Pos} {scope : Scope} {cl : List (PySem.Str × Addr)} {pos spos : Pos} {Q : Flow → Shared → Prop} (F₀ : Fr h₀ L s.heap m) (hLe : env.locals = L)
    (hsw : swapsWith (.ListComp elt [⟨.Name x px, iter, [ct], 0⟩] scope pos) (some (.Name y py)) spos.line env = pure true)
    (hclos : closureFor scope env = pure cl) (hcell : ∀ z ∈ scope.names, z.2 ≠ .cell) (hkind : scope.kind = .function)
    (hnames : ∀ z ∈ scope.names, z.2 = .local → scope.names.lookup z.1 = some .local) (hx : scope.names.lookup x = some .local)
    (hy : env.kindOf y = some .local) (hp : (env.scope.kind == .class || (env.scope.kind == .module && env.locals != env.globals)) = false)
    (h : wpAny (model prog w) A (eval iter env) (SrcTx prog w A h₀ L m env ct elt x y scope cl Q) E s)
    (hs : ∀ x, foldedSetIterable iter env x = pure x := by intro _; rfl) :
    wpAny (model prog w) A (exec (.Assign [.Name y py] (.ListComp elt [⟨.Name x px, iter, [ct], 0⟩] scope pos) spos) env) Q E s := by
  subst hLe
  rw [exec_Assign_Name_used _ _ _ _ hsw]
  refine wpAny_bind (wpAny_standAt (wpAny_bind ?_))
  show wpAny _ A (do let _ ← comprehension (.ListComp elt [⟨.Name x px, iter, [ct], 0⟩] scope pos) scope env _ (newList []) false (eval iter env) (some (assign (.Name y py) env))) _ _ s
  refine wpAny_bind (wpAny_mono (wpAny_comprehension_free (use := some (assign (.Name y py) env)) (Q := fun _ s' => Q .next s') rfl hs hclos hkind hnames
    (wpAny_mono h (fun xv s₁ h₁ => ?_) fun _ _ e => e)) (fun _ s' hq => wpAny_pure (wpAny_pure hq)) fun _ _ e => e)
  obtain ⟨tx, tt, news, rfl, hh, F, N, hsz, R⟩ := h₁
  have hio : ∀ (T : String) (i : Nat) (h : Heap), h.IsStrIter s₁.heap.objs.size T tx tt i → ∃ o, h.get? s₁.heap.objs.size = some o := fun T i h st => by obtain ⟨o, e, _⟩ := st; exact ⟨o, e⟩
  have hst : ∀ (T : String) (i : Nat) (h h' : Heap) (o : Obj) (nw : List (Addr × Obj)), h.IsStrIter s₁.heap.objs.size T tx tt i → h.get? s₁.heap.objs.size = some o → h'.get? s₁.heap.objs.size = some o → (∀ b o, h₀.get? b = some o → h'.get? b = some o) → News h₀ env.locals h' nw → True → h'.IsStrIter s₁.heap.objs.size T tx tt i := fun T i h h' o nw st e e' _ _ _ => by
    obtain ⟨o', g, r⟩ := st
    rw [e] at g
    cases g
    exact ⟨o, e', r⟩
  cases ha : tx.cps.all (· < 128)
  · refine wpAny_pyIter_wide ha ?_
    refine block_T (Walks.strWide hh _ tx tt) hsz (hio _) (hst _) hcell hkind hx ⟨_, Heap.get?_push_size _ rfl, rfl, rfl⟩ (fun b hb => ?_)
      (F.keeps fun _ _ e => Heap.get?_push_of_some _ e) (N.grown fun _ _ e => Heap.get?_push_of_some _ e) (Nat.ne_of_lt F.ns.lt) (next_is_new F) (fun p hp => Nat.ne_of_lt (Heap.lt_size (N p hp).1)) trivial (R _ ⟨_, rfl⟩) ?_
    · rw [List.mem_singleton.mp hb]
      show s₁.heap.objs.size < (s₁.heap.push _).objs.size
      rw [Heap.size_push]; exact Nat.lt_succ_self _
    · intro D C h' tk m' ys news' F' N' o1 hn hC₀ hD₀ hCL hDL hCD offC fin
      show wpAny _ A (assign (.Name y py) env (.ref D)) _ _ _
      refine wpAny_assign_Name (wpAny_storeName_local hy F'.ns (fun h₂ hn₂ hs₂ => ?_) hp)
      have hL₀ : h₀.get? env.locals = none := Heap.get?_none_of_le F'.above
      have F₂ : Fr h₀ env.locals h₂ (fun z => if z = y then some (.ref D) else m z) := ⟨hn₂, fun b o e => hs₂.extBut b o (fun q => by rw [q, hL₀] at e; cases e) (F'.keep b o e), F'.above⟩
      refine ⟨m', hn.sameBut hs₂ hCL, fun h'' hs'' => fin D h'' _ (F₂.change hs'' hCL hC₀) (fun p hp => ?_) o1⟩
      have z : h₂.get? p.1 = some p.2 := hs₂.extBut _ _ (N' p hp).2.1 (N' p hp).1
      refine ⟨hs''.extBut _ _ ?_ z, (N' p hp).2⟩
      rcases List.mem_cons.mp hp with rfl | hp
      · exact Ne.symm hCD
      · exact offC p hp
  · refine wpAny_pyIter_ascii ha ?_
    refine block_T (Walks.strAscii hh _ tx tt) hsz (hio _) (hst _) hcell hkind hx ⟨_, Heap.get?_push_size _ rfl, rfl, rfl⟩ (fun b hb => ?_)
      (F.keeps fun _ _ e => Heap.get?_push_of_some _ e) (N.grown fun _ _ e => Heap.get?_push_of_some _ e) (Nat.ne_of_lt F.ns.lt) (next_is_new F) (fun p hp => Nat.ne_of_lt (Heap.lt_size (N p hp).1)) trivial (R _ ⟨_, rfl⟩) ?_
    · rw [List.mem_singleton.mp hb]
      show s₁.heap.objs.size < (s₁.heap.push _).objs.size
      rw [Heap.size_push]; exact Nat.lt_succ_self _
    · intro D C h' tk m' ys news' F' N' o1 hn hC₀ hD₀ hCL hDL hCD offC fin
      show wpAny _ A (assign (.Name y py) env (.ref D)) _ _ _
      refine wpAny_assign_Name (wpAny_storeName_local hy F'.ns (fun h₂ hn₂ hs₂ => ?_) hp)
      have hL₀ : h₀.get? env.locals = none := Heap.get?_none_of_le F'.above
      have F₂ : Fr h₀ env.locals h₂ (fun z => if z = y then some (.ref D) else m z) := ⟨hn₂, fun b o e => hs₂.extBut b o (fun q => by rw [q, hL₀] at e; cases e) (F'.keep b o e), F'.above⟩
      refine ⟨m', hn.sameBut hs₂ hCL, fun h'' hs'' => fin D h'' _ (F₂.change hs'' hCL hC₀) (fun p hp => ?_) o1⟩
      have z : h₂.get? p.1 = some p.2 := hs₂.extBut _ _ (N' p hp).2.1 (N' p hp).1
      refine ⟨hs''.extBut _ _ ?_ z, (N' p hp).2⟩
      rcases List.mem_cons.mp hp with rfl | hp
      · exact Ne.symm hCD
      · exact offC p hp

/-- the turns of a text's comprehension whose test is g of the sign and whose element is the text z -/
theorem text_turns {ct elt : Expr} {x : PySem.Str} {scope : Scope} {cl : List (PySem.Str × Addr)} {Fin : List Value → List (Addr × Obj) → Prop} {news : List (Addr × Obj)} {tx : PySem.Str} (g : Nat → Bool) (z : PySem.Str)
    (turn : ∀ (c : Nat) (t : Tok) I oI C oC D ys m₂ h tk (E' : Value → Shared → Prop), c ∈ tx.cps.toList → NsObj oC m₂ → m₂ x = some (.str ⟨#[c]⟩ t) → Fr h₀ L h m → News h₀ L h ((I, oI) :: (C, oC) :: (D, lst ys) :: news) →
      wpAny (model prog w) A (isTrue ct (compEnvC scope cl C env) (eval ct (compEnvC scope cl C env))) (fun ok s' => ok = g c ∧ if ok = true then
        wpAny (model prog w) A (eval elt (compEnvC scope cl C env)) (fun y s'' => (∃ t, y = .str z t) ∧ TEnd h₀ L m s ((I, oI) :: (C, oC) :: (D, lst ys) :: news) s'') E' s'
        else TEnd h₀ L m s ((I, oI) :: (C, oC) :: (D, lst ys) :: news) s') E' { s with heap := h, toks := tk })
    (fin : ∀ ys, StrsAre ys (List.replicate (tx.cps.toList.filter g).length z) → Fin ys news) :
    CompRestT prog w A h₀ L m env ct elt x scope cl s (fun _ => True) (SignAt tx) Fin tx.cps.size 0 [] news := by
  have key : ∀ (j i : Nat) (ys : List Value), i + j = tx.cps.size → StrsAre ys (List.replicate ((tx.cps.toList.take i).filter g).length z) → CompRestT prog w A h₀ L m env ct elt x scope cl s (fun _ => True) (SignAt tx) Fin j i ys news := by
    intro j
    induction j with
    | zero =>
      intro i ys hi hy
      have e : i = tx.cps.toList.length := by rw [Array.length_toList]; omega
      subst e
      rw [List.take_length] at hy
      exact CompRestT.zero (fin ys hy)
    | succ j ih =>
      intro i ys hi hy
      refine CompRestT.succ ?_
      intro v I oI C oC D m₂ h tk E' hv hC hx F N off ne
      obtain ⟨c, t, hc, rfl⟩ := hv
      have hc' : tx.cps.toList[i]? = some c := by rw [Array.getElem?_toList]; exact hc
      refine wpAny_mono (turn c t I oI C oC D ys m₂ h tk E' (List.mem_of_getElem? hc') hC hx F N) (fun ok s₂ hq => ?_) fun _ _ e => e
      obtain ⟨hok, hq⟩ := hq
      have hs : (tx.cps.toList.take (i + 1)).filter g = (tx.cps.toList.take i).filter g ++ (if g c then [c] else []) := by
        rw [List.take_add_one, hc', List.filter_append]
        cases hg : g c <;> simp [hg]
      cases ok with
      | true =>
        simp only [if_true] at hq ⊢
        refine wpAny_mono hq (fun y s₃ hr => ?_) fun _ _ e => e
        obtain ⟨⟨t', rfl⟩, h', tk', rfl, F', N'⟩ := hr
        refine ⟨h', tk', news, rfl, F', N', off, trivial, ih (i + 1) _ (by omega) ?_⟩
        rw [hs, ← hok, if_pos rfl, List.length_append, List.length_singleton, List.replicate_succ']
        exact hy.append' (.cons _ _ .nil)
      | false =>
        simp only [Bool.false_eq_true, if_false] at hq ⊢
        obtain ⟨h', tk', rfl, F', N'⟩ := hq
        refine ⟨h', tk', news, rfl, F', N', off, trivial, ih (i + 1) _ (by omega) ?_⟩
        rw [hs, ← hok, if_neg (by simp), List.append_nil]
        exact hy
  exact key _ 0 [] (by omega) .nil
end
theorem off1_mem {D : Addr} : ∀ {l : List (Addr × Obj)}, Off1 D l → ∀ p ∈ l, p.1 ≠ D
  | [], _, _, hp => nomatch hp
  | _ :: _, x, p, hp => by
    rcases List.mem_cons.mp hp with rfl | hp
    · exact x.1
    · exact off1_mem x.2 p hp
theorem text_fits {x : PySem.Str} (h : x.length ≤ 40) : x.cps.size ≤ sizeLine := by
  have h' : x.cps.size ≤ 40 := h
  rw [PySem.sizeLine_eq]
  omega
end

section
open PySem.Spec PySem.Calls PyProof.V
theorem tx_lay (z : PySem.Str) (hz : PyData.strOk z = true) : ∀ n : Nat, PyData.canLayAll0 ((List.replicate n z).map PyData.str) = true
  | 0 => rfl
  | n + 1 => by
    rw [List.replicate_succ, List.map_cons]
    simp only [PyData.canLayAll0, PyData.canLay0, tx_lay z hz n, hz, Bool.and_self]
theorem tx_depth (z : PySem.Str) : ∀ n : Nat, PyData.depthAll ((List.replicate n z).map PyData.str) = 0
  | 0 => rfl
  | n + 1 => by
    rw [List.replicate_succ, List.map_cons]
    simp only [PyData.depthAll, PyData.depth, tx_depth z n, Nat.max_self]
theorem tx_shaped (z : PySem.Str) (hz : PyData.strOk z = true) (n : Nat) : SeqAt.shaped (.list ((List.replicate n z).map PyData.str)) = true := by
  simp [SeqAt.shaped, PyData.canLay0, PyData.depth, tx_lay z hz n, tx_depth z n, -List.map_replicate]
theorem tx_same (z : PySem.Str) : ∀ n : Nat, PySem.Spec.sameAll ((List.replicate n z).map PyData.str) ((List.replicate n z).map PyData.str) = true
  | 0 => by simp [PySem.Spec.sameAll]
  | n + 1 => by
    rw [List.replicate_succ]
    simp only [List.map_cons, PySem.Spec.sameAll, PySem.Spec.same, tx_same z n]
    simp
section
variable {prog : Program} {w : World} {A : Around} {E : Value → Shared → Prop} {s : Shared} {a b : Addr} {xs ys : List Value} {Q : Value → Shared → Prop}
theorem eq_texts (z : PySem.Str) (hz : PyData.strOk z = true) (n : Nat) (ha : s.heap.IsList a xs.toArray) (hb : s.heap.IsList b ys.toArray) (hi : StrsAre xs (List.replicate n z)) (hj : StrsAre ys (List.replicate n z)) (hu : A.units + 64 < cLine) (h : Q (.bool true) s) :
    wpAny (model prog w) A (compareOp .Eq (.ref a) (.ref b)) Q E s :=
  eq_dataH_same (reads_newData ha hi.carried) (reads_newData hb hj.carried) (tx_shaped z hz n) (tx_shaped z hz n) hu (SeqAt.noMix_of_shape (.list .str) rfl _ _ (list_map_has fun _ => rfl) (list_map_has fun _ => rfl)) (by
    have e : PySem.Spec.same (.list ((List.replicate n z).map PyData.str)) (.list ((List.replicate n z).map PyData.str)) = true := by simp only [PySem.Spec.same]; exact tx_same z n
    rw [e]; exact h)
end
end

section
theorem fresh_Law0 : True := by
  w_top off
  k_with_none
  trivial
local macro_rules | `(tactic| walk_at "compareOp In") => `(tactic| k_extra "compareOp In")
local macro_rules | `(tactic| walk_at "compareOp Eq ref ref") => `(tactic| k_extra "compareOp Eq ref ref")
local macro_rules | `(tactic| walk_at "CompSrc") => `(tactic| k_extra "CompSrc")
set_option maxRecDepth 100000 in
set_option maxHeartbeats 1200000 in
theorem law0 : PySem.Challenge.rw_ru0003_02.Holds := hd (by
  w_strict (
    k_with_none
    k_go0
    rename World => w
    rename List Int => ns
    rename Obj => co
    rename Shared => s₁
    (rename Fr _ _ _ _ => lF')
    refine my_cutk 1 (σ := Addr × List Value) (fun z => [(z.1, listOf z.2.toArray 0)]) [(s₁.heap.objs.size + 1, co)] (fun z => [("tape", .ref z.1)]) [] (fun z => IntsAre z.2 (ns.take 12 ++ [(ns.length : Int)]) ∧ @LT.lt Nat _ (s₁.heap.objs.size + 1) z.1) lF' ?_ ?_
--[1
    · simp only [List.take_succ_cons, List.take_zero]
      (try k_fold)
      k_steps
      dsimp only [CutPost]
      (rename News _ _ _ _ => nE)
      (rename IntsAre _ (_ ++ _) => hI9)
      exact cut_end (_, _) (by k_asm) (cb_drop nE (fun p hp => by rcases List.mem_cons.mp hp with h | h; exact h ▸ List.mem_cons_self; exact List.mem_cons_of_mem _ (List.mem_cons_of_mem _ (List.mem_cons_of_mem _ h)))) (by kst_all) (by walk_at "my cutsame") ⟨hI9, by omega⟩
--]
    rintro ⟨tl, vs⟩ u h tk hle ⟨hvs, htl⟩ F₁ N₁
    dsimp only at hvs htl
    simp only [List.cons_append, List.nil_append] at N₁
    (try dsimp only at F₁)
    simp only [List.drop_succ_cons, List.drop_zero]
    refine my_cutk 1 (σ := Str × Tok) (fun _ => []) [(tl, listOf vs.toArray 0), (s₁.heap.objs.size + 1, co)] (fun z => [("raw", .str z.1 z.2)]) [] (fun z => 1 ≤ z.1.length ∧ z.1.length ≤ 40 ∧ ∀ c ∈ z.1.cps.toList, goodSign c) F₁ ?_ ?_
--[2
    · simp only [List.take_succ_cons, List.take_zero]
      (try k_fold)
      k_with_none
      have hlv : vs.length ≤ 13 := by
        have h1 := hvs.length
        rw [h1, List.length_append, List.length_take]
        simp only [List.length_cons, List.length_nil]
        omega
      k_with "CompSrc" => k_dflt (
        (refine LCg.CompSrc.ledger (by rfl) (by k_asm) (by k_asm) (by k_mem) (by size_fits) ?_)
        (intro g')
        (refine' kct_list (fun k => (["a", "b", "\r\n", "\n", "\r", "\x01", " ", "\ufdd0", "é", "\x00", "😀"] : List PySem.Str).getD (k.fmod 11).toNat Str.empty) hvs (fun k' t' I' oI' C' oC' D' m' ys' h' tk' E' hk' hC' hx' F' N' off' ne' => ?_) ?_)
        (all_goals (try (simp only [LCg.Off3, and_true] at off')))
        (all_goals (try ((show KPfMark → _); intro hMark')))
        kcf_last)
      have hlv9 : (ns.take 12 ++ [(ns.length : Int)]).length ≤ 13 := by
        rw [List.length_append, List.length_take]
        simp only [List.length_cons, List.length_nil]
        omega
      have hlv1 : 1 ≤ (ns.take 12 ++ [(ns.length : Int)]).length := by
        rw [List.length_append]
        simp only [List.length_cons, List.length_nil]
        omega
      have hsum := raw_sum _ hlv9
      have hrok := raw_ok _ hlv1 hlv9
      k_with "call builtin:str.join" => k_dflt (
        (rename CarriedAll _ _ => hc9)
        (have hxs := StrsAre.of_carried (ys := (ns.take 12 ++ [(ns.length : Int)]).map sgn) (by rw [List.map_map]; exact hc9))
        (refine' join_list ?l ?i hsum ?_)
        (case l => exact News.isList (by k_asm) (by k_mem))
        (case i => exact hxs)
        (intro t' k')
        (try dsimp only))
      k_steps
      dsimp only [CutPost]
      (rename News _ _ _ _ => nE)
      exact cut_end (_, _) (by k_asm) (cb_drop nE (by walk_at "my drop")) (by kst_all) (by walk_at "my cutsame") hrok
--]
    rintro ⟨raw, rt⟩ u h tk hle2 ⟨hr1, hr40, hrs⟩ F₁ N₁
    dsimp only at hr1 hr40 hrs
    simp only [List.nil_append] at N₁
    (try dsimp only at F₁)
    simp only [List.drop_succ_cons, List.drop_zero]
    refine my_cutk 1 (σ := Str × Tok) (fun _ => []) [(tl, listOf vs.toArray 0), (s₁.heap.objs.size + 1, co)] (fun z => [("text", .str z.1 z.2)]) [] (fun z => z.1.cps.toList = mend raw.cps.toList) F₁ ?_ ?_
--[3
    · simp only [List.take_succ_cons, List.take_zero]
      (try k_fold)
      k_with_none
      k_with "call ref" => k_dflt (
        (refine' con_use0 (con_mended w raw rt hr40) ?B ?F ?X ?N ?T ?hk ?hd ?hu ?_)
        (case N => k_asm)
        walk_at "my use"
        (intro r' led' h' tk' hP' F' N'; obtain ⟨rfl, T, tT, rfl, hT⟩ := hP'; (simp only [List.cons_append, List.nil_append] at N'); (try dsimp only at N'); (try dsimp only)))
      k_steps
      dsimp only [CutPost]
      (rename News _ _ _ _ => nE)
      exact cut_end (_, _) (by k_asm) (cb_drop nE (by walk_at "my drop")) (by kst_all) (by walk_at "my cutsame") hT
--]
    rintro ⟨T, tT⟩ u h tk hle3 hT F₁ N₁
    dsimp only at hT
    have hTl : T.length ≤ 40 := text_len hr40 hT
    simp only [List.nil_append] at N₁
    (try dsimp only at F₁)
    simp only [List.drop_succ_cons, List.drop_zero]
    refine my_cutk 1 (σ := Fx × St) (fun z => Led w z.1 z.2) [(tl, listOf vs.toArray 0), (s₁.heap.objs.size + 1, co)] (fun z => [("stream", .ref z.1.q)]) [] (fun z => z.1.Ok ∧ GoodRaw z.1 ∧ z.1.raw = raw ∧ Inv z.1 z.2 [] ∧ @LT.lt Nat _ tl z.1.dq ∧ z.2.size ≤ z.2.off ∧ remT z.1 z.2 = mend raw.cps.toList) F₁ ?_ ?_
--[4
    · simp only [List.take_succ_cons, List.take_zero]
      (try k_fold)
      k_with_none
      k_steps
      dsimp only [CutPost]
      (rename News _ _ _ _ => nE)
      obtain ⟨z, ⟨z1, z2, z3, z4, z6, z5⟩, hq, hdq, nE'⟩ := led_made hr40 hrs nE (by omega) (by omega) (by omega) (by omega) (by omega) (by omega)
      subst hq hdq
      exact cut_end z (by k_asm) nE' (by kst_all) (by walk_at "my cutsame") ⟨z1, z2, z3, z4, by omega, z6, z5⟩
--]
    rintro ⟨f, c⟩ u h tk hle4 ⟨hf, hgr, hfr, hI, hfd, hso, hrem⟩ F₁ N₁
    dsimp only at hf hgr hfr hI hfd hso hrem
    (try dsimp only at N₁)
    (try dsimp only at F₁)
    have hoff : OwnOff [(tl, listOf vs.toArray 0), (s₁.heap.objs.size + 1, co)] ((Led w f c).map (·.1)) := law_off hf hfd htl
    simp only [List.drop_succ_cons, List.drop_zero]
    refine my_cutk 2 (σ := St × Tok) (fun z => Led w f z.1) [(tl, listOf vs.toArray 0), (s₁.heap.objs.size + 1, co)] (fun z => [("place", .int 0 z.2)]) [] (fun z => ∃ pre, Inv f z.1 pre ∧ remT f z.1 = mend raw.cps.toList) F₁ ?_ ?_
--[5
    · simp only [List.take_succ_cons, List.take_zero]
      (try k_fold)
      k_with_none
      obtain ⟨chunk,tch,size,tsz,off,tof,errs,ep,pl,tpl,pc,tpc,buf,place,tpp⟩ := c
      simp only [List.cons_append, List.nil_append] at N₁
      k_with "call ref" => k_dflt (
        walk_at "my fold"
        (rename News _ _ _ (Led _ _ _ ++ _) => nL)
        (refine' con_useN nL (con_rd w f hf hgr _ [] hI _ _ ?p0 ?p1) ?B ?F ?X ?T ?hk hoff ?hd ?hu ?_)
        walk_at "my use"
        (case p0 => exact rd_n0 _)
        (case p1 => exact rd_n1 _)
        (intro r' led' h' tk' hP' F' N')
        (obtain ⟨b', c', hr', hl', hI', hz', hP0, hP1⟩ := hP')
        (clear hP0 hP1)
        (have hrm := rd_first hI hrem hso hI' hz')
        (clear hI' hz')
        (obtain ⟨chunk',tch',size',tsz',off',tof',errs',ep',pl',tpl',pc',tpc',buf',place',tpp'⟩ := c')
        (subst hr')
        (subst hl')
        (simp only [List.cons_append, List.nil_append] at N')
        (try dsimp only at N')
        (try dsimp only))
      k_steps
      dsimp only [CutPost]
      walk_at "my fold"
      (rename News _ _ _ (Led _ _ _ ++ _) => nL)
      (rename ∃ pre, Inv f _ pre ∧ _ => hrm9)
      exact cut_end (_, _) (by k_asm) nL (by kst_all) (by walk_at "my cutsame") hrm9
--]
    clear hrem hso hI
    rintro ⟨c, tp0⟩ u h tk hle5 ⟨pre, hI, hrem⟩ F₁ N₁
    dsimp only at hI hrem
    (try dsimp only at N₁)
    (try dsimp only at F₁)
    have hoff : OwnOff [(s₁.heap.objs.size + 1, co), (tl, listOf vs.toArray 0)] ((Led w f c).map (·.1)) := law_off2 hf hfd htl
    simp only [List.drop_succ_cons, List.drop_zero]
    refine my_cutk 1 (σ := (St × Obj) × (Int × Tok)) (fun z => Led w f z.1.1 ++ [(s₁.heap.objs.size + 1, z.1.2)]) [(tl, listOf vs.toArray 0)] (fun z => [("place", .int z.2.1 z.2.2)]) ["n", "row", "wanted", "run"] (fun z => (∃ pre, Inv f z.1.1 pre) ∧ (∃ v, z.1.2.data = .cell v) ∧ 0 ≤ z.2.1 ∧ z.2.1 ≤ T.length ∧ remT f z.1.1 = T.cps.toList.drop z.2.1.toNat) F₁ ?_ ?_
--[6
    · simp only [List.take_succ_cons, List.take_zero]
      (try k_fold)
      k_with_none
      k_with "pyIter ref" => fail "by hand"
      refine wpAny_execs_cons ?_
      with_unfolding_all refine For_invVF F₁ rfl rfl ?_
      k_steps
      have hcell : ∃ v, co.data = .cell v := ⟨_, by assumption⟩
      (rename Fr _ _ _ _ => lF')
      have lN' : News s₁.heap s₁.heap.objs.size h ((Led w f c ++ [(s₁.heap.objs.size + 1, co)]) ++ [(tl, listOf vs.toArray 0)]) := news_swap N₁
      with_unfolding_all refine my_list (σ := (St × Obj) × (Int × Tok)) (fun z => Led w f z.1.1 ++ [(s₁.heap.objs.size + 1, z.1.2)]) [(tl, listOf vs.toArray 0)] (fun z => [("place", .int z.2.1 z.2.2)]) ["row", "wanted", "run"] (fun z => (∃ pre, Inv f z.1.1 pre) ∧ (∃ v, z.1.2.data = .cell v) ∧ 0 ≤ z.2.1 ∧ z.2.1 ≤ T.length ∧ remT f z.1.1 = T.cps.toList.drop z.2.1.toNat) ((c, co), (0, tp0)) (by rfl) (List.mem_singleton_self _) hvs (fun _ => rfl) lF' lN' (law_off3 hf hfd htl) (by kst_all) ⟨⟨pre, hI⟩, hcell, Int.le_refl _, Int.natCast_nonneg _, hrem.trans hT.symm⟩ ?_ ?_
      all_goals clear lF' lN'
      · rintro ⟨⟨c, co⟩, place, tp⟩ n tn u h tk ow hn hoff' hsub ⟨⟨pre, hI⟩, ⟨cv, hco⟩, hp0, hp1, hrem⟩ F₁ N₁
        have htl' := hsub _ (List.mem_singleton_self _)
        dsimp only at hI hco hp0 hp1 hrem
        (try dsimp only at N₁)
        (try dsimp only at F₁)
        refine my_cutk 1 (σ := Obj) (fun z => [(s₁.heap.objs.size + 1, z)]) (Led w f c ++ ow) (fun _ => []) [] (fun z => ∃ tm, z.data = .cell (some (.int (Int.fdiv (n * 40503) 64) tm))) F₁ ?_ ?_
--[7
        · simp only [List.take_succ_cons, List.take_zero]
          (try k_fold)
          k_with_none
          k_steps
          (rename Fr _ _ _ _ => lF')
          with_unfolding_all refine stCN (own := []) (rest := Led w f c ++ ow) lF' (cell_front N₁) rfl hco (by intro p hp; cases hp) (cell_apart hf hfd htl hoff') ?_
          clear lF'
          intro h2 o2 F2 N2 ho2
          k_steps
          dsimp only [CutPost]
          exact cut_end o2 F2 N2 (by kst_all) (by walk_at "my cutsame") ⟨_, ho2⟩
--]
        rintro co2 u h tk hle ⟨tm, hco2⟩ F₁ N₁
        clear hco
        (try dsimp only at N₁)
        (try dsimp only at F₁)
        simp only [List.drop_succ_cons, List.drop_zero]
        simp only [List.cons_append, List.nil_append] at N₁
        refine my_cutk 1 (σ := Addr × List Value) (fun z => [(z.1, listOf z.2.toArray z.2.length)]) ((s₁.heap.objs.size + 1, co2) :: (Led w f c ++ ow)) (fun z => [("row", .ref z.1)]) [] (fun z => ∃ ys, StrsAre z.2 ys ∧ ys.Sublist asked ∧ ∀ p ∈ (s₁.heap.objs.size + 1, co2) :: (Led w f c ++ ow), @LT.lt Nat _ p.1 z.1) F₁ ?_ ?_
--[8
        · simp only [List.take_succ_cons, List.take_zero]
          (try k_fold)
          k_with_none
          refine wpAny_execs_cons ?_
          with_unfolding_all refine assign_enum_comp F₁ (by rfl) (by with_unfolding_all rfl) (by with_unfolding_all rfl) (by decide) (by rfl) (by decide) (by rfl) (by rfl) (by decide) (by rfl) (by rfl) ?_
          k_with "call type:enumerate" => fail "by hand"
          k_steps
          refine srcEn_call (by rfl) (by k_asm) (by k_asm) (by k_mem) (by first | size_fits | exact Nat.le_of_ble_eq_true rfl) ?_ ?_
          · intro i v t9 e oe it oi C oC D ys m₂ h9 tk9 E9 hv hNs hx1 hx2 F9 N9
            have hi9 : i < 9 := by
              have hs9 := (Array.getElem?_eq_some_iff.mp hv).1
              exact hs9
            have hi10 : i = 0 ∨ i = 1 ∨ i = 2 ∨ i = 3 ∨ i = 4 ∨ i = 5 ∨ i = 6 ∨ i = 7 ∨ i = 8 := by omega
            rcases hi10 with rfl | rfl | rfl | rfl | rfl | rfl | rfl | rfl | rfl
            all_goals k_steps
            all_goals ((rename News _ _ _ _ => nE); exact ⟨_, _, rfl, by k_asm, nE⟩)
          · intro D ys h9 tk9 hlt9 hsub9 F9 N9
            k_steps
            dsimp only [CutPost]
            obtain ⟨zs, hz1, hz2⟩ := strs_sub strs_asked hsub9
            exact cut_end (D, ys) (by k_asm) (cb_drop N9 (by intro p hp; rcases List.mem_cons.mp hp with h | h; exact h ▸ List.mem_cons_self; exact List.mem_cons_of_mem _ (List.mem_cons_of_mem _ h))) (by kst_all) (by walk_at "my cutsame") ⟨zs, hz1, hz2, fun p hp => hlt9 p (List.mem_cons_of_mem _ hp)⟩
--]
        rintro ⟨D, rv⟩ u h tk hle ⟨zs, hz1, hz2, hDlt⟩ F₁ N₁
        dsimp only at hz1 hDlt
        (try dsimp only at N₁)
        (try dsimp only at F₁)
        simp only [List.drop_succ_cons, List.drop_zero]
        simp only [List.cons_append, List.nil_append] at N₁
        refine my_cutk 2 (σ := (Int × Tok) × (PySem.Str × Tok)) (fun _ => []) ((D, listOf rv.toArray rv.length) :: (s₁.heap.objs.size + 1, co2) :: (Led w f c ++ ow)) (fun z => [("wanted", .int z.1.1 z.1.2), ("run", .str z.2.1 z.2.2)]) [] (fun z => (z.1.1 = 0 ∨ z.1.1 = 1) ∧ z.2.1.cps.toList = (T.cps.toList.drop place.toNat).takeWhile (isRun zs z.1.1)) F₁ ?_ ?_
--[9
        · simp only [List.take_succ_cons, List.take_zero]
          (try k_fold)
          k_with_none
          k_with "call ref" => k_dflt (
            (rename News _ _ _ _ => nL)
            (refine' con_useN (own := (s₁.heap.objs.size + 1, co2) :: (Led w f c ++ ow)) nL (con_lrun w _ _ D rv _ zs hz1 _ _ (rest_len hTl hp0 hp1)) ?B ?F ?X ?T ?hk (off_row hDlt) ?hd ?hu ?_)
            walk_at "my use"
            (intro r' led' h' tk' hP' F' N')
            (obtain ⟨hl', y, ty, hr', hy⟩ := hP')
            (have hy9 := rest_run hp0 hp1 hy)
            (clear hy)
            (subst hr')
            (subst hl')
            (simp only [List.cons_append, List.nil_append] at N')
            (try dsimp only))
          k_steps
          dsimp only [CutPost]
          (rename News _ _ _ _ => nE)
          (rename (_ : PySem.Str).cps.toList = List.takeWhile _ _ => hy9)
          exact cut_end ((_, _), (_, _)) (by k_asm) nE (by kst_all) (by walk_at "my cutsame") ⟨wanted_is n, hy9⟩
--]
        rintro ⟨⟨wd, tw⟩, run, trun⟩ u h tk hle ⟨hw, hrun⟩ F₁ N₁
        dsimp only at hw hrun
        (try dsimp only at N₁)
        (try dsimp only at F₁)
        simp only [List.drop_succ_cons, List.drop_zero]
        simp only [List.nil_append] at N₁
        have hrv : RvAt f D := rv_at (w := w) (c := c) hDlt (fun p hp => List.mem_cons_of_mem _ (List.mem_append.mpr (.inl hp)))
        have hoff4 : OwnOff ((D, listOf rv.toArray rv.length) :: (s₁.heap.objs.size + 1, co2) :: ow) ((Led w f c).map (·.1)) := law_off4 (c₀ := c) (o'' := co2) hrv (fun p hp => cell_apart (w := w) (c := c) (o' := co2) hf hfd htl hoff' p (List.mem_append.mpr (.inl hp))) hoff'
        have N₂ := news_led N₁
        clear N₁
        refine my_cutk 1 (σ := St) (fun z => Led w f z) ((D, listOf rv.toArray rv.length) :: (s₁.heap.objs.size + 1, co2) :: ow) (fun _ => []) [] (fun z => (∃ pre, Inv f z pre) ∧ remT f z = (T.cps.toList.drop place.toNat).dropWhile (isRun zs wd)) F₁ ?_ ?_
--[10
        · simp only [List.take_succ_cons, List.take_zero]
          (try k_fold)
          have hsum := row_sum hz2
          obtain ⟨chunk,tch,size,tsz,off,tof,errs,ep,pl,tpl,pc,tpc,buf,place',tpp⟩ := c
          simp only [List.cons_append, List.nil_append] at N₂
          k_with_none
          k_with "call builtin:str.join" => k_dflt ((refine' join_list ?l ?i hsum ?_); (case l => exact News.isList (by k_asm) (by k_mem)); (case i => exact hz1); (intro t' k'; (try dsimp only)))
          k_with "call ref" => k_dflt (
            walk_at "my fold"
            (rename News _ _ _ (Led _ _ _ ++ _) => nL)
            (first
              | (refine' con_useE nL (con_until w f hf hgr _ pre hI (.ref D) _ _ (hasIn_list w D rv _ zs hz1) _) ?hex ?B ?F ?X ?T ?hk hoff4 ?hd ?hu ?_)
              | (refine' con_useE nL (con_until w f hf hgr _ pre hI (.str _ _) _ _ (hasIn_str w _ _) _) ?hex ?B ?F ?X ?T ?hk hoff4 ?hd ?hu ?_))
            (case hex => intro p hp; first | (cases hp; done) | (rw [List.mem_singleton.mp hp]; exact List.mem_cons_self))
            walk_at "my use"
            (intro r' led' h' tk' hP' F' N')
            (obtain ⟨x9, t9, c9, pre9, hr', hx', hl', hI', hm'⟩ := hP')
            (first
              | (have hPQ : _ = isRun zs wd := run_list hz2 hw (b := _) (by first | rfl | decide); have hxr := until_run hPQ hrem hx' hrun; have hrm := until_rest hPQ hrem hm')
              | (have hPQ : _ = isRun zs wd := run_text hz2 hw (b := _) (by first | rfl | decide); have hxr := until_run hPQ hrem hx' hrun; have hrm := until_rest hPQ hrem hm'))
            (obtain ⟨chunk',tch',size',tsz',off',tof',errs',ep',pl',tpl',pc',tpc',buf',place',tpp'⟩ := c9)
            (subst hr')
            (subst hl')
            (subst hxr)
            (simp only [List.cons_append, List.nil_append] at N')
            (try dsimp only at N')
            (try dsimp only))
          k_steps
          all_goals first
            | (exfalso
               (rename ((_ : PySem.Str) != _) = true => hne)
               simp at hne
               done)
            | (dsimp only [CutPost]
               walk_at "my fold"
               (rename News _ _ _ (Led _ _ _ ++ _) => nL)
               (rename remT f _ = List.dropWhile _ _ => hrm9)
               (rename Inv f _ _ => hI9)
               exact cut_end _ (by k_asm) nL (by kst_all) (by walk_at "my cutsame") ⟨⟨_, hI9⟩, hrm9⟩)
--]
        clear hI hrem
        rintro c u h tk hle ⟨⟨pre, hI⟩, hrem⟩ F₁ N₁
        (try dsimp only at N₁)
        (try dsimp only at F₁)
        simp only [List.drop_succ_cons, List.drop_zero]
        have hrem2 := rem_drop hrun hrem
        refine my_cutk 2 (σ := Int × Tok) (fun _ => []) (Led w f c ++ ((D, listOf rv.toArray rv.length) :: (s₁.heap.objs.size + 1, co2) :: ow)) (fun z => [("place", .int z.1 z.2)]) [] (fun z => 0 ≤ z.1 ∧ z.1 ≤ T.length ∧ remT f c = T.cps.toList.drop z.1.toNat) F₁ ?_ ?_
--[11
        · simp only [List.take_succ_cons, List.take_zero]
          (try k_fold)
          obtain ⟨chunk,tch,size,tsz,off,tof,errs,ep,pl,tpl,pc,tpc,buf,place',tpp⟩ := c
          simp only [List.cons_append, List.nil_append] at N₁
          k_with_none
          have hplace := place_next hp0 hp1 hrun
          have hspot := spot_eq hp0 hplace.2 hfr hT hrem2
          k_with "call ref" => k_dflt (first
            | (walk_at "my fold"
               (rename News _ _ _ (Led _ _ _ ++ _) => nL)
               (refine' con_useN nL (con_spot w f _ pre hI) ?B ?F ?X ?T ?hk hoff4 ?hd ?hu ?_)
               walk_at "my use"
               (intro r' led' h' tk' hP' F' N')
               (obtain ⟨a9, ta9, tb9, hr', hlt9, hl'⟩ := hP')
               (subst hr')
               (subst hl')
               (simp only [List.cons_append, List.nil_append] at N')
               (try dsimp only at N')
               (try dsimp only))
            | ((refine' con_use0 (con_lspot w _ _ _ _ hTl hplace.1 hplace.2) ?B ?F ?X ?N ?T ?hk ?hd ?hu ?_)
               (case N => k_asm)
               walk_at "my use"
               (intro r' led' h' tk' hP' F' N')
               (obtain ⟨a8, ta8, tb8, hr', hl'⟩ := hP')
               (subst hr')
               (subst hl')
               (simp only [List.cons_append, List.nil_append] at N')
               (try dsimp only)))
          k_steps
          · dsimp only [CutPost]
            walk_at "my fold"
            (rename News _ _ _ (Led _ _ _ ++ _) => nL)
            exact cut_end (_, _) (by k_asm) nL (by kst_all) (by walk_at "my cutsame") ⟨hplace.1, hplace.2, place_rem hp0 hrem2⟩
          · exfalso
            (rename (_ && _) = false => hne)
            rw [hspot] at hne
            simp at hne
--]
        rintro ⟨place, tp⟩ u h tk hle ⟨hp0, hp1, hrem⟩ F₁ N₁
        dsimp only at hp0 hp1 hrem
        (try dsimp only at N₁)
        (try dsimp only at F₁)
        simp only [List.nil_append] at N₁
        simp only [List.drop_succ_cons, List.drop_zero]
        obtain ⟨chunk,tch,size,tsz,off,tof,errs,ep,pl,tpl,pc,tpc,buf,place',tpp⟩ := c
        simp only [List.cons_append, List.nil_append] at N₁
        k_with_none
        k_with "call ref" => k_dflt (
            walk_at "my fold"
            (rename News _ _ _ (Led _ _ _ ++ _) => nL)
            (refine' con_useN nL (con_char w f hf hgr _ pre hI) ?B ?F ?X ?T ?hk hoff4 ?hd ?hu ?_)
            walk_at "my use"
            (intro r' led' h' tk' hP' F' N')
            (obtain ⟨c9, pre9, hl', hI', hch⟩ := hP')
            (obtain ⟨chunk',tch',size',tsz',off',tof',errs',ep',pl',tpl',pc',tpc',buf',place',tpp'⟩ := c9)
            (subst hl')
            (rcases hch with ⟨hc1, hr', hc2⟩ | ⟨ch, tl9, tch9, hc1, hr', hc2⟩)
            (all_goals (subst hr'))
            (all_goals (simp only [List.cons_append, List.nil_append] at N'))
            (all_goals (try dsimp only at N'))
            (all_goals (try dsimp only)))
        k_steps
        · exfalso
          (rename place < _ => hlt)
          exact char_none hp0 hrem hc1 hlt
        · walk_at "my fold"
          (rename News _ _ _ (Led _ _ _ ++ _) => nL)
          (rename ¬ (place < _) => hlt)
          obtain ⟨q1, q2, q3⟩ := min_none hp0 hp1 hlt hc2
          exact my_end ((_, _), (_, _)) (by k_asm) (news_back nL) (by kst_all) (by walk_at "my same") ⟨⟨_, hI'⟩, ⟨_, hco2⟩, q1, q2, q3⟩
        · exfalso
          (rename ((_ : PySem.Str) != _) = true => hne)
          obtain ⟨q1, q2, q3⟩ := char_some hp0 hrem hc1
          rw [q2] at hne
          simp at hne
        · walk_at "my fold"
          (rename News _ _ _ (Led _ _ _ ++ _) => nL)
          obtain ⟨q1, q2, q3⟩ := min_some hp0 hrem hc1 hc2
          exact my_end ((_, _), (_, _)) (by k_asm) (news_back nL) (by kst_all) (by walk_at "my same") ⟨⟨_, hI'⟩, ⟨_, hco2⟩, q1, q2, q3⟩
        · exfalso
          (rename ¬ (place < _) => hlt)
          exact hlt (char_some hp0 hrem hc1).1
      · rintro ⟨⟨c₂, o₂⟩, place, tp⟩ u h tk hP F₁ N₁
        k_steps
        dsimp only [CutPost]
        exact cut_end ((c₂, o₂), (place, tp)) F₁ N₁ (by kst_all) (by walk_at "my cutsame") hP
--]
    clear hI hrem hle5
    rintro ⟨⟨c, co⟩, place, tp⟩ u h tk hle6 ⟨⟨pre, hI⟩, ⟨cv, hco⟩, hp0, hp1, hrem⟩ F₁ N₁
    dsimp only at hI hco hp0 hp1 hrem
    (try dsimp only at N₁)
    (try dsimp only at F₁)
    simp only [List.drop_succ_cons, List.drop_zero]
    simp only [List.append_assoc] at N₁
    have hoff5 : OwnOff [(s₁.heap.objs.size + 1, co), (tl, listOf vs.toArray 0)] ((Led w f c).map (·.1)) := law_off2 hf hfd htl
    refine my_cutk 1 (σ := St × (PySem.Str × Tok)) (fun z => Led w f z.1) [(tl, listOf vs.toArray 0)] (fun z => [("rest", .str z.2.1 z.2.2)]) [] (fun z => (∃ pre, Inv f z.1 pre) ∧ remT f z.1 = [] ∧ z.2.1.cps.toList = T.cps.toList.drop place.toNat) F₁ ?_ ?_
--[12
    · simp only [List.take_succ_cons, List.take_zero]
      (try k_fold)
      obtain ⟨chunk,tch,size,tsz,off,tof,errs,ep,pl,tpl,pc,tpc,buf,place',tpp⟩ := c
      simp only [List.cons_append, List.nil_append] at N₁
      k_with_none
      k_with "call ref" => k_dflt (
        (rename News _ _ _ _ => nE)
        (have nL : News _ _ _ (Led w f ⟨_, _, _, _, _, _, _, _, _, _, _, _, _, _, _⟩ ++ (_ :: _)) := news_front nE)
        (refine' con_useE nL (con_until0 w f hf hgr _ pre hI (.ref _) _ _ (hasIn_list w _ [] _ [] .nil)) ?hex ?B ?F ?X ?T ?hk (off_rv ?p0 hoff5) ?hd ?hu ?_)
        (case hex => intro p hp; rw [List.mem_singleton.mp hp]; exact List.mem_cons_self)
        (case p0 => constructor <;> omega)
        walk_at "my use"
        (intro r' led' h' tk' hP' F' N')
        (obtain ⟨x9, t9, c9, pre9, hr', hx', hl', hI', hm'⟩ := hP')
        (obtain ⟨hx9, hm9⟩ := until_end hrem hx' hm')
        (obtain ⟨chunk',tch',size',tsz',off',tof',errs',ep',pl',tpl',pc',tpc',buf',place',tpp'⟩ := c9)
        (subst hr')
        (subst hl')
        (simp only [List.cons_append, List.nil_append] at N')
        (try dsimp only at N')
        (try dsimp only))
      k_steps
      dsimp only [CutPost]
      walk_at "my fold"
      (rename News _ _ _ (Led _ _ _ ++ _) => nL)
      exact cut_end (_, (_, _)) (by k_asm) (cb_drop nL (by intro p hp; rcases List.mem_append.mp hp with h | h; exact List.mem_append.mpr (.inl h); exact List.mem_append.mpr (.inr (List.mem_cons_of_mem _ (List.mem_cons_of_mem _ h))))) (by kst_all) (by walk_at "my cutsame") ⟨⟨_, hI'⟩, hm9, hx9⟩
--]
    clear hI hrem hoff5
    rintro ⟨c, rest, trest⟩ u h tk hle7 ⟨⟨pre, hI⟩, hrem, hrest⟩ F₁ N₁
    dsimp only at hI hrem hrest
    (try dsimp only at N₁)
    (try dsimp only at F₁)
    simp only [List.drop_succ_cons, List.drop_zero]
    refine my_cutk 1 (σ := Addr × List Value) (fun z => [(z.1, listOf z.2.toArray z.2.length)]) (Led w f c ++ [(tl, listOf vs.toArray 0)]) (fun z => [("faults", .ref z.1)]) [] (fun z => StrsAre z.2 (List.replicate (raw.cps.toList.filter flt).length "invalid-codepoint") ∧ ∀ p ∈ Led w f c ++ [(tl, listOf vs.toArray 0)], p.1 ≠ z.1) F₁ ?_ ?_
--[13
    · simp only [List.take_succ_cons, List.take_zero]
      (try k_fold)
      k_with_none
      refine wpAny_execs_cons ?_
      with_unfolding_all refine assign_text_comp F₁ (by rfl) (by with_unfolding_all rfl) (by with_unfolding_all rfl) (by decide) (by rfl) (by decide) (by rfl) (by rfl) (by rfl) ?_
      k_steps
      refine ⟨raw, rt, _, rfl, by rfl, by k_asm, N₁, text_fits hr40, ?_⟩
      rintro s₂ ⟨g9, rfl⟩
      refine text_turns flt "invalid-codepoint" ?_ ?_
      · intro c9 t9 I oI C oC D ys m₂ h9 tk9 E9 hc9 hNs hx9 F9 N9
        k_with "compareOp In" => k_dflt ((refine' in_list_strs ?hl (.cons _ _ (.cons _ _ .nil)) ?_); (case hl => exact News.isList (by k_asm) (by k_mem)))
        k_steps
        all_goals ((rename News _ _ _ _ => nE); exact ⟨_, _, rfl, by k_asm, cb_drop nE (fun p hp => List.mem_cons_of_mem _ hp)⟩)
      · intro ys hys D h9 tk9 F9 N9 o9
        k_steps
        dsimp only [CutPost]
        exact cut_end (D, ys) (by k_asm) N9 (by kst_all) (by walk_at "my cutsame") ⟨hys, off1_mem o9⟩
--]
    rintro ⟨D, ys⟩ u h tk hle8 ⟨hys, hoD⟩ F₁ N₁
    dsimp only at hys hoD
    (try dsimp only at N₁)
    (try dsimp only at F₁)
    simp only [List.drop_succ_cons, List.drop_zero]
    have hoff6 : OwnOff [(D, listOf ys.toArray ys.length), (tl, listOf vs.toArray 0)] ((Led w f c).map (·.1)) := law_off6 hoD (law_off3b hf hfd)
    have N₂ := news_front (a := Led w f c) (b := [(tl, listOf vs.toArray 0)]) N₁
    have hrest9 : rest = Txt.slice T (some place) none := list_inj (hrest.trans (slice_from hp0 hp1).symm)
    subst hrest9
    have hys9 : StrsAre ys (List.replicate (bad raw.cps.toList) "invalid-codepoint") := by rw [← flt_bad hrs]; exact hys
    clear N₁
    obtain ⟨chunk,tch,size,tsz,off,tof,errs,ep,pl,tpl,pc,tpc,buf,place',tpp⟩ := c
    simp only [List.cons_append, List.nil_append] at N₂
    k_with_none
    k_with "call ref" => k_dflt (
        walk_at "my fold"
        (rename News _ _ _ (Led _ _ _ ++ _) => nL)
        (refine' con_useN nL (con_char w f hf hgr _ pre hI) ?B ?F ?X ?T ?hk hoff6 ?hd ?hu ?_)
        walk_at "my use"
        (intro r' led' h' tk' hP' F' N')
        (obtain ⟨c9, pre9, hl', hI', hch⟩ := hP')
        (rcases hch with ⟨hc1, hr', hc2⟩ | ⟨ch, tl9, tch9, hc1, hr', hc2⟩)
        rotate_left
        (focus (exfalso; rw [hrem] at hc1; cases hc1; done))
        (have herr9 := errs_end hI' hc2 hfr)
        (obtain ⟨chunk',tch',size',tsz',off',tof',errs',ep',pl',tpl',pc',tpc',buf',place',tpp'⟩ := c9)
        (subst hl')
        (subst hr')
        (simp only [List.cons_append, List.nil_append] at N')
        (try dsimp only at N')
        (try dsimp only))
    k_with "compareOp Eq ref ref" => k_dflt (
        (rename StrsAre _ (List.replicate (bad raw.cps.toList) _) => herr8)
        (refine' eq_texts "invalid-codepoint" (by decide +kernel) (bad raw.cps.toList) ?k1 ?k2 herr8 hys9 ?k5 ?_)
        (case k1 => exact News.isList (by k_asm) (by k_mem))
        (case k2 => exact News.isList (by k_asm) (by k_mem))
        (case k5 => first | units_room | exact Nat.le_of_ble_eq_true rfl))
    k_steps))
end
end Mine
theorem PySem.Challenge.cw_ru0003_02_holds : PySem.Challenge.rw_ru0003_02.Holds := by
  exact Mine.law0
