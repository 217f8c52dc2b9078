import PyProof.Rows.All
import Wide.All
import OpenK.AllK
import Wide.FinOn
import PySem.Challenge.RW_pe0106_01
open PySem PySem.W PyProof.Rows
set_option Elab.async false
set_option linter.all false
set_option maxRecDepth 100000
set_option maxHeartbeats 0
namespace Mine
section
set_option synthInstance.maxSize 1 in
open_top hd for PySem.Challenge.rw_pe0106_01
end
section
theorem news_sub0 {h₀ h : Heap} {L : Addr} {l l' : List (Addr × Obj)} (N : News h₀ L h l') (hs : ∀ q ∈ l, q ∈ l') : News h₀ L h l := fun q hq => N q (hs q hq)
theorem flat {α : Type} {M : Model} {A : Around} {tr : Sem α} {R : α → Shared → Prop} {s1 : Shared} {h : Heap} {tk₀ : Nat} (H : ∀ tk, wpAny M A tr R E { s1 with heap := h, toks := tk }) : wpAny M A tr R E { s1 with heap := h, toks := tk₀ } := H _
section
variable {prog : Program} {w : World} {A : Around} {E : Value → Shared → Prop} {s : Shared} {env : Env} {h₀ : Heap} {x : Str} {body : List Stmt} {Q : Flow → Shared → Prop}

/-- what a turn's end says: the ledger is that of a state, the kept names of the frame are its -/
def LpJ {σ : Type} (Led : σ → List (Addr × Obj)) (mu : σ → Str → Option Value) (kept : List Str) (P : σ → Prop) (m : Str → Option Value) (nx : List (Addr × Obj)) : Prop :=
  ∃ c : σ, nx = Led c ∧ P c ∧ ∀ z ∈ kept, m z = mu c z

theorem lpFr {σ : Type} {mu : σ → Str → Option Value} {kept : List Str} {L : Addr} {h : Heap} {m : Str → Option Value} {c : σ} {v : Value}
    (e : ∀ z ∈ kept, m z = mu c z) (F : Fr h₀ L h (fun y => if y = x then some v else m y)) :
    Fr h₀ L h (fun y => if y = x then some v else if kept.contains y = true then mu c y else m y) := by
  have q : (fun y => if y = x then some v else if kept.contains y = true then mu c y else m y) = (fun y => if y = x then some v else m y) := by
    funext y
    by_cases h1 : y = x
    · simp [h1]
    · simp only [if_neg h1]
      cases h2 : kept.contains y with
      | true => simp only [if_true]; exact (e y (List.contains_iff_mem.mp h2)).symm
      | false => simp
  rw [q]; exact F
theorem lpFrOut {σ : Type} {mu : σ → Str → Option Value} {kept : List Str} {L : Addr} {h : Heap} {m : Str → Option Value} {c : σ}
    (e : ∀ z ∈ kept, m z = mu c z) (F : Fr h₀ L h m) :
    Fr h₀ L h (fun y => if kept.contains y = true then mu c y else m y) := by
  have q : (fun y => if kept.contains y = true then mu c y else m y) = m := by
    funext y
    cases h2 : kept.contains y with
    | true => simp only [if_true]; exact (e y (List.contains_iff_mem.mp h2)).symm
    | false => simp
  rw [q]; exact F

/-- a for over a list of the call's own, whatever it holds; the list itself stays -/
theorem forVals {σ : Type} {l : Addr} {vs : List Value} {nn : Nat} {m₀ : Str → Option Value} (Led : σ → List (Addr × Obj)) (mu : σ → Str → Option Value) (kept : List Str) (P : Nat → σ → Prop) (c₀ : σ)
    (hh : A.handled = none) (hl : ∀ c, (l, listOf vs.toArray nn) ∈ Led c) (F : Fr h₀ env.locals s.heap m₀) (N : News h₀ env.locals s.heap (Led c₀))
    (hm : ∀ z ∈ kept, m₀ z = mu c₀ z) (hp : P 0 c₀) (hadr : ∀ c, (Led c).map (·.1) = (Led c₀).map (·.1))
    (turn : ∀ (c : σ) (i : Nat) (v : Value) (u : Str → Option Value) (h : Heap) (tk : Nat) (own : List (Addr × Obj)), vs[i]? = some v → OwnOff own ((Led c₀).map (·.1)) → P i c →
      Fr h₀ env.locals h (fun y => if y = x then some v else if kept.contains y = true then mu c y else u y) → News h₀ env.locals h (Led c ++ own) →
      wpAny (model prog w) A (execs body env) (InvPostN h₀ env.locals (LpJ Led mu kept (P (i + 1))) own ((Led c₀).map (·.1)) { s with heap := h, toks := tk } Q) E { s with heap := h, toks := tk })
    (done : ∀ (c : σ) (u : Str → Option Value) (h : Heap) (tk : Nat), P vs.length c → Fr h₀ env.locals h (fun y => if kept.contains y = true then mu c y else u y) → News h₀ env.locals h (Led c) → Q .next { s with heap := h, toks := tk }) :
    wpAny (model prog w) A (pyIter (.ref l)) (fun it s₂ => LoopAtV prog w A h₀ env x body Q E it s₂) E s := by
  have hol : s.heap.get? l = some (listOf vs.toArray nn) := (N _ (hl c₀)).1
  have hls : s.heap.IsList l vs.toArray := ⟨_, hol, rfl, nn, rfl⟩
  have hlt : ∀ p ∈ Led c₀, p.1 < s.heap.objs.size := fun p hp => Heap.lt_size (N p hp).1
  have hne : l ≠ s.heap.objs.size := Nat.ne_of_lt (Heap.lt_size hol)
  have hoff : ∀ c, ∀ p ∈ Led c, p.1 ≠ s.heap.objs.size := by
    intro c p hp e
    have h1 : p.1 ∈ (Led c₀).map (·.1) := by rw [← hadr c]; exact List.mem_map_of_mem hp
    obtain ⟨q, hq, e'⟩ := List.mem_map.mp h1
    exact absurd (hlt q hq) (by rw [e', e]; exact Nat.lt_irrefl _)
  refine wpAny_pyIter_list hls ?_
  have W := Walks.list (prog := prog) (w := w) hh s.heap.objs.size l hne vs.toArray
  rw [show vs.toArray.size = vs.length by simp] at W
  refine ⟨_, _, _, vs.length, _, _, m₀, Led c₀, fun i m nx => LpJ Led mu kept (P i) m nx, rfl, W, ?_, ?_, ?_, ?_, F.push _, ?_, ⟨c₀, rfl, hp, hm⟩, ?_, ?_⟩
  · intro q
    rcases List.mem_cons.mp q with e | q
    · exact absurd F.ns.lt (by rw [e]; exact Nat.lt_irrefl _)
    · exact (N _ (hl c₀)).2.1 (List.mem_singleton.mp q).symm
  · intro b hb
    rw [List.mem_singleton.mp hb]; exact next_is_new F
  · intro p hp q
    exact hoff c₀ p hp (List.mem_singleton.mp q)
  · exact ⟨⟨_, Heap.get?_push_size _ rfl, rfl, rfl⟩, hls.at fun o e => Heap.get?_push_of_some _ e⟩
  · exact fun p hp => ⟨Heap.get?_push_of_some _ (N p hp).1, (N p hp).2⟩
  · rintro i v m₁ news₁ s₁ own ⟨h1, tk1, rfl⟩ hi hP ⟨c, rfl, hPc, hmc⟩ _ hown hget _ _ F₁ N₁
    have hv : vs[i]? = some v := by simpa using hP
    -- what the loop itself holds: the iterator alone
    let mine := own.filter fun p => decide (p.1 = s.heap.objs.size)
    have hmine : ∀ p ∈ mine, p ∈ own ∧ p.1 = s.heap.objs.size := fun p hp => by
      have := List.mem_filter.mp hp
      exact ⟨this.1, by simpa using this.2⟩
    have hsep : OwnOff mine ((Led c₀).map (·.1)) := by
      intro p hp b hb e
      obtain ⟨q, hq, rfl⟩ := List.mem_map.mp hb
      exact hoff c₀ q hq (e ▸ (hmine p hp).2)
    have N₂ : News h₀ env.locals h1 (Led c ++ mine) := fun p hp => N₁ p (by
      rcases List.mem_append.mp hp with q | q
      · exact List.mem_append_right _ q
      · exact List.mem_append_left _ (hmine p q).1)
    have hlo : h1.get? l = some (listOf vs.toArray nn) := (N₁ _ (List.mem_append_right _ (hl c))).1
    refine wpAny_mono (turn c i v m₁ h1 tk1 mine hv hsep hPc (lpFr hmc F₁) N₂) (fun f s₂ p => ?_) fun _ _ e => e
    have fin : InvEndN h₀ env.locals (LpJ Led mu kept (P (i + 1))) mine ((Led c₀).map (·.1)) { s with heap := h1, toks := tk1 } s₂ →
        LoopStepU h₀ env.locals [s.heap.objs.size] own (LpJ Led mu kept (P (i + 1))) { s with heap := h1, toks := tk1 } .next s₂ := by
      rintro ⟨h', tk, m', news', nx, e, F', N', hn, ho, ha, hm'⟩
      have hm2 := hm'
      obtain ⟨c', rfl, hP', hmu'⟩ := hm'
      refine ⟨rfl, h', tk, m', Led c', e, F', fun p hp => ?_, fun p hp q => hoff c' p hp (List.mem_singleton.mp q), hm2⟩
      rcases List.mem_append.mp hp with q | q
      · rcases List.mem_cons.mp (hown p q) with e1 | e1
        · exact N' p (ho p (List.mem_filter.mpr ⟨q, by simpa using e1⟩))
        · have e2 : p.1 = l := List.mem_singleton.mp e1
          have e3 : h1.get? p.1 = some p.2 := hget p q
          rw [e2, hlo] at e3
          have e4 : p = (l, listOf vs.toArray nn) := Prod.ext e2 (Option.some.inj e3).symm
          rw [e4]; exact N' _ (hn _ (hl c'))
      · exact N' p (hn p q)
    cases f with
    | ret v => exact .ret p
    | brk => exact .brk p
    | next => exact .next (fin p)
    | cont => exact .cont (fin p)
  · rintro h' tk m' news' F' N' _ ⟨c, rfl, hPc, hmc⟩
    exact done c m' h' tk hPc (lpFrOut hmc F') N'
theorem lpEnd {σ : Type} {Led : σ → List (Addr × Obj)} {mu : σ → Str → Option Value} {kept : List Str} {P : σ → Prop} (c : σ) {L : Addr} {m' : Str → Option Value} {own news' : List (Addr × Obj)} {adr : List Addr} {s₁ : Shared} {h' : Heap} {tk : Nat}
    (F : Fr h₀ L h' m') (N : News h₀ L h' news') (hn : ∀ p ∈ Led c, p ∈ news') (ho : ∀ p ∈ own, p ∈ news') (ha : (Led c).map (·.1) = adr) (hp : P c) (hm : ∀ z ∈ kept, m' z = mu c z) :
    InvEndN h₀ L (LpJ Led mu kept P) own adr s₁ { s₁ with heap := h', toks := tk } := InvEndN.intro F N ⟨c, rfl, hp, hm⟩ ha hn ho
end
end
section
abbrev S (l : List Nat) : Str := ⟨l.toArray⟩

/-! greedy search of a word in a text -/
theorem sub_hit {c : Nat} {r : List Nat} : ∀ {k : Nat} {l : List Nat}, (∀ j, j < k → l[j]? ≠ some c) → l[k]? = some c → (c :: r).isSublist l = r.isSublist (l.drop (k + 1))
  | k, [], _, h => by simp at h
  | 0, a :: l, _, h => by
    have : a = c := by simpa using h
    subst this
    simp [List.isSublist]
  | k + 1, a :: l, hn, h => by
    have h0 : a ≠ c := fun e => hn 0 (Nat.succ_pos _) (by simp [e])
    have := sub_hit (r := r) (k := k) (l := l) (fun j hj => by have := hn (j + 1) (by omega); simpa using this) (by simpa using h)
    rw [List.isSublist]
    rw [if_neg (by simpa using Ne.symm h0), this]
    simp
theorem sub_miss {c : Nat} {r : List Nat} : ∀ {l : List Nat}, (∀ j : Nat, l[j]? ≠ some c) → (c :: r).isSublist l = false
  | [], _ => by simp [List.isSublist]
  | a :: l, hn => by
    have h0 : a ≠ c := fun e => hn 0 (by simp [e])
    rw [List.isSublist, if_neg (by simpa using Ne.symm h0)]
    exact sub_miss fun j => by have := hn (j + 1); simpa using this

theorem at_nil {x : Str} {p : Nat} (hp : p ≤ x.length) : StrLaws.At x (S []) x.length p := by
  refine ⟨hp, ?_⟩
  rw [StrLaws.subAt_eq]; simp [Str.length]
theorem at_one {x : Str} {c i : Nat} : StrLaws.At x (S [c]) x.length i ↔ x.cps.toList[i]? = some c := StrLaws.subAt_one x c i

theorem em_item {wl : List Nat} {i : Nat} {y : Str} (h : (S [] :: (wl.map fun c => S [c]) ++ [S []])[i]? = some y) :
    (y = S [] ∧ (i = 0 ∨ i = wl.length + 1)) ∨ (∃ c, y = S [c] ∧ wl[i - 1]? = some c ∧ 1 ≤ i) := by
  cases i with
  | zero => left; exact ⟨by simpa using h.symm, .inl rfl⟩
  | succ i =>
    simp only [List.cons_append, List.getElem?_cons_succ] at h
    by_cases hi : i < wl.length
    · right
      rw [List.getElem?_append_left (by simpa using hi), List.getElem?_map] at h
      cases hq : wl[i]? with
      | none => rw [hq] at h; cases h
      | some c => rw [hq] at h; exact ⟨c, (Option.some.inj h).symm, by simpa using hq, by omega⟩
    · left
      rw [List.getElem?_append_right (by simpa using Nat.le_of_not_lt hi)] at h
      simp only [List.length_map] at h
      have : i - wl.length = 0 := by
        rcases Nat.eq_zero_or_pos (i - wl.length) with e | e
        · exact e
        · rw [show i - wl.length = (i - wl.length - 1) + 1 by omega] at h; simp at h
      rw [this] at h
      exact ⟨by simpa using h.symm, .inr (by omega)⟩
theorem em_one {wl : List Nat} {i : Nat} {y : Str} (h : (S [] :: (wl.map fun c => S [c]) ++ [S []])[i]? = some y) : y.length ≤ 1 := by
  rcases em_item h with ⟨rfl, _⟩ | ⟨c, rfl, _⟩
  · exact Nat.zero_le _
  · exact Nat.le_refl _
theorem drop_at {wl : List Nat} {i c : Nat} (h : wl[i]? = some c) : wl.drop i = c :: wl.drop (i + 1) := by
  obtain ⟨hi, e⟩ := List.getElem?_eq_some_iff.mp h
  rw [List.drop_eq_getElem_cons hi, e]
/-- a turn that finds -/
theorem em_hit {wl : List Nat} {i p k : Nat} {r : List Nat} {y got : Str} (hy : (S [] :: (wl.map fun c => S [c]) ++ [S []])[i]? = some y)
    (hP : p ≤ got.length ∧ wl.isSublist got.cps.toList = (wl.drop (i - 1)).isSublist (got.cps.toList.drop p))
    (hk : Builtin.Str.occurrences got y p got.length 1 = k :: r) :
    k + y.length ≤ got.length ∧ wl.isSublist got.cps.toList = (wl.drop (i + 1 - 1)).isSublist (got.cps.toList.drop (k + y.length)) := by
  obtain ⟨hp, e⟩ := hP
  rcases StrLaws.occ_head_from got y p 1 (Nat.le_refl _) with ⟨h0, _⟩ | ⟨k', r', h1, hlo, hat, hno⟩
  · rw [h0] at hk; cases hk
  · rw [h1] at hk
    obtain ⟨rfl, rfl⟩ := List.cons.inj hk
    refine ⟨hat.1, ?_⟩
    rcases em_item hy with ⟨rfl, hi⟩ | ⟨c, rfl, hc, hi⟩
    · have hkp : k' = p := by
        rcases Nat.lt_or_ge p k' with q | q
        · exact absurd (at_nil hp) (hno p (Nat.le_refl _) q)
        · omega
      subst hkp
      show _ = (wl.drop i).isSublist (got.cps.toList.drop (k' + 0))
      rw [e, Nat.add_zero]
      rcases hi with rfl | rfl
      · rfl
      · rw [List.drop_of_length_le (l := wl) (by omega), List.drop_of_length_le (l := wl) (by omega)]
    · show _ = (wl.drop i).isSublist (got.cps.toList.drop (k' + 1))
      have hk' : (got.cps.toList.drop p)[k' - p]? = some c := by
        rw [List.getElem?_drop, show p + (k' - p) = k' by omega]; exact at_one.mp hat
      have hd := drop_at hc
      rw [show i - 1 + 1 = i by omega] at hd
      rw [e, hd, sub_hit (k := k' - p) (fun j hj q => ?_) hk', List.drop_drop, show p + (k' - p + 1) = k' + 1 by omega]
      rw [List.getElem?_drop] at q
      exact hno (p + j) (by omega) (by omega) (at_one.mpr q)
/-- a turn that does not -/
theorem em_miss {wl : List Nat} {i p : Nat} {y got : Str} (hy : (S [] :: (wl.map fun c => S [c]) ++ [S []])[i]? = some y)
    (hP : p ≤ got.length ∧ wl.isSublist got.cps.toList = (wl.drop (i - 1)).isSublist (got.cps.toList.drop p))
    (hk : Builtin.Str.occurrences got y p got.length 1 = []) : wl.isSublist got.cps.toList = false := by
  obtain ⟨hp, e⟩ := hP
  rcases StrLaws.occ_head_from got y p 1 (Nat.le_refl _) with ⟨_, h0⟩ | ⟨k', r', h1, _⟩
  · rcases em_item hy with ⟨rfl, hi⟩ | ⟨c, rfl, hc, hi⟩
    · exact absurd (at_nil hp) (h0 p (Nat.le_refl _))
    · rw [e, drop_at hc]
      refine sub_miss fun j q => ?_
      rw [List.getElem?_drop] at q
      exact h0 (p + j) (by omega) (at_one.mpr q)
  · rw [h1] at hk; cases hk

/-! a sign and three dots put for a sign -/
def rep1 (c : Nat) (l : List Nat) : List Nat := l.flatMap fun d => if d = c then [c, 46, 46, 46] else [d]
theorem rep1_append (c : Nat) (a b : List Nat) : rep1 c (a ++ b) = rep1 c a ++ rep1 c b := List.flatMap_append ..
theorem rep1_free (c : Nat) : ∀ l : List Nat, c ∉ l → rep1 c l = l
  | [], _ => rfl
  | k :: r, h => by
    have h1 : k ≠ c := fun e => h (e ▸ List.mem_cons_self ..)
    have h2 := rep1_free c r fun m => h (List.mem_cons_of_mem _ m)
    show (if k = c then [c, 46, 46, 46] else [k]) ++ rep1 c r = k :: r
    rw [if_neg h1, h2]; rfl
theorem rep1_len (c : Nat) : ∀ l : List Nat, (rep1 c l).length ≤ 4 * l.length
  | [] => Nat.zero_le _
  | k :: r => by
    have := rep1_len c r
    show ((if k = c then [c, 46, 46, 46] else [k]) ++ rep1 c r).length ≤ _
    rw [List.length_append, List.length_cons]
    split <;> simp only [List.length_cons, List.length_nil] <;> omega
theorem dots_eq : Str.ofString "..." = S [46, 46, 46] := by decide +kernel
theorem sdots (c : Nat) : S [c] ++ Str.ofString "..." = S [c, 46, 46, 46] := by rw [dots_eq]; rfl
theorem rep1_join (c : Nat) : ∀ parts : List Str, (∀ p ∈ parts, c ∉ p.cps.toList) → rep1 c (Str.join (S [c]) parts).cps.toList = (Str.join (S [c, 46, 46, 46]) parts).cps.toList
  | [], _ => rfl
  | [p], h => rep1_free c _ (h p (List.mem_singleton.mpr rfl))
  | p :: q :: r, h => by
    have ih := rep1_join c (q :: r) fun a ha => h a (List.mem_cons_of_mem _ ha)
    show rep1 c (p ++ S [c] ++ Str.join (S [c]) (q :: r)).cps.toList = (p ++ S [c, 46, 46, 46] ++ Str.join (S [c, 46, 46, 46]) (q :: r)).cps.toList
    simp only [Str.cps_append, Array.toList_append]
    rw [rep1_append, rep1_append, ih, rep1_free c _ (h p (List.mem_cons_self ..))]
    show p.cps.toList ++ rep1 c [c] ++ _ = _
    simp [rep1]
theorem rep_split (x : List Nat) (c : Nat) : Txt.join (S [c] ++ Str.ofString "...") (Txt.split (S x) (S [c])) = S (rep1 c x) := by
  rw [sdots]
  show Builtin.Str.glued _ _ = _
  rw [StrLaws.glued_eq_join]
  have h := rep1_join c _ (StrLaws.split_free (S x) c)
  have e : Str.join (S [c]) (Txt.split (S x) (S [c])) = S x := StrLaws.join_split (S x) (S [c])
  rw [e] at h
  exact (StrLaws.mk_of_toList h.symm)
end
section
def Ctr (w : World) (k : Nat) (f : Addr) (vs : List Value) (R : Value → Prop) : Prop :=
  ∀ (p : Program) (loose : List Str) (mean : ExcName → Option Value) (mg mb : Str → Option Value) (news : List (Addr × Obj))
    (dp un : Nat) (gd : Option (List Code)) (cn : Str) (cs : Scope) (a : Addr) (ccd : Value) (cl : List (Str × Addr)) (outer : List Env) (A₀ : Around) (base h₀ : Heap) (L : Addr) (m : Str → Option Value) (s : Shared) (Q E : Value → Shared → Prop),
    (hd.heap_39 w.params).In h₀ → Below A₀ base outer h₀ → Fr h₀ L s.heap m → News h₀ L s.heap news → Top p loose mean mg mb h₀ → cs.kind = .function → dp + k < recursionLimit → un + 8 * k < cLine →
    (∀ (v : Value) (h' : Heap) (tk' : Nat), R v → Fr h₀ L h' m → News h₀ L h' news → Q v { s with heap := h', toks := tk' }) →
    wpAny (model Challenge.rw_pe0106_01.row.prog w) (ktrTop dp un gd cn cs L a ccd cl outer) (call (.ref f) vs) Q E s
theorem ctr_use {w : World} {k : Nat} {f : Addr} {vs : List Value} {R : Value → Prop} (C : Ctr w k f vs R) {p : Program} {loose : List Str} {mean : ExcName → Option Value} {mg mb : Str → Option Value} {news : List (Addr × Obj)}
    {dp un : Nat} {gd : Option (List Code)} {cn : Str} {cs : Scope} {a : Addr} {ccd : Value} {cl : List (Str × Addr)} {outer : List Env} {A₀ : Around} {base h₀ : Heap} {L : Addr} {m : Str → Option Value} {s : Shared} {Q E : Value → Shared → Prop}
    (X : (hd.heap_39 w.params).In h₀) (B : Below A₀ base outer h₀) (F : Fr h₀ L s.heap m) (N : News h₀ L s.heap news) (T : Top p loose mean mg mb h₀) (hk : cs.kind = .function) (hdp : dp + k < recursionLimit) (hun : un + 8 * k < cLine)
    (h : ∀ (v : Value) (h' : Heap) (tk' : Nat), R v → Fr h₀ L h' m → News h₀ L h' news → Q v { s with heap := h', toks := tk' }) :
    wpAny (model Challenge.rw_pe0106_01.row.prog w) (ktrTop dp un gd cn cs L a ccd cl outer) (call (.ref f) vs) Q E s := C p loose mean mg mb news dp un gd cn cs a ccd cl outer A₀ base h₀ L m s Q E X B F N T hk hdp hun h
theorem em_last {ws sp : List Str} {wl : List Nat} (h1 : ws = sp) (h2 : sp = S [] :: (wl.map fun c => S [c]) ++ [S []]) : ws.getD (-1 + (ws.length : Int)).toNat Str.empty = S [] := by
  subst h1; subst h2
  simp only [List.length_append, List.length_cons, List.length_map, List.length_nil]
  have : (-1 + ((wl.length + 1 + (0 + 1) : Nat) : Int)).toNat = wl.length + 1 := by omega
  rw [this]
  simp [List.getD]
theorem em_str {l : List (Str × Tok)} {i : Nat} {v : Value} (h : (strValues l)[i]? = some v) : ∃ y t, v = .str y t ∧ (l.map fun x => x.fst)[i]? = some y := by
  unfold strValues at h
  rw [List.getElem?_map] at h
  cases hq : l[i]? with
  | none => rw [hq] at h; cases h
  | some p =>
    rw [hq] at h
    exact ⟨p.1, p.2, (Option.some.inj h).symm, by rw [List.getElem?_map, hq]; rfl⟩
theorem gives_find4 (x y : Str) (p : Nat) (t u v v' : Tok) : Gives (Builtin.«str.find» ⟨[.str x t, .str y u, .int (p : Int) v, .int (x.length : Int) v'], []⟩) (.int (match Builtin.Str.occurrences x y p x.length 1 with | k :: _ => (k : Int) | [] => -1)) := by
  have e1 : (max 0 (if ((p : Nat) : Int) < 0 then (p : Int) + x.length else (p : Int))).toNat = p := by
    rw [if_neg (by omega)]; omega
  have e2 : min (max 0 (if ((x.length : Nat) : Int) < 0 then (x.length : Int) + x.length else (x.length : Int))).toNat x.length = x.length := by
    rw [if_neg (by omega)]; omega
  show Gives (match Builtin.Str.occurrences x y (max 0 (if ((p : Nat) : Int) < 0 then (p : Int) + x.length else (p : Int))).toNat (min (max 0 (if ((x.length : Nat) : Int) < 0 then (x.length : Int) + x.length else (x.length : Int))).toNat x.length) 1 with | k :: _ => retInt k | [] => (do rule "str.find.not-found"; retInt (-1))) _
  rw [e1, e2]
  cases Builtin.Str.occurrences x y p x.length 1 with
  | nil => exact .rule (.of_eq rfl)
  | cons k _ => exact .of_eq rfl
theorem find4 {prog : Program} {w : World} {A : Around} {E : Value → Shared → Prop} {s : Shared} {x y : Str} {t u v v' : Tok} {Q : Value → Shared → Prop} (p : Nat)
    (h1 : ∀ (k : Nat) r, Builtin.Str.occurrences x y p x.length 1 = k :: r → Q (.int (k : Int) s.toks) { s with toks := s.toks + 1 })
    (h0 : Builtin.Str.occurrences x y p x.length 1 = [] → Q (.int (-1) s.toks) { s with toks := s.toks + 1 }) :
    wpAny (model prog w) A (call (.builtin "str.find") [.str x t, .str y u, .int (p : Int) v, .int (x.length : Int) v']) Q E s := by
  refine call_gives F.slot_str_find (typeIs_str _ _ _) F.entry_str_find (F.args_str_find_4 _ _ _ _) (gives_find4 x y p t u v v') ?_
  cases h : Builtin.Str.occurrences x y p x.length 1 with
  | nil => exact h0 h
  | cons k r => exact h1 k r h
theorem em_ok (w : World) (wl : List Nat) (want got : Str) (t1 t2 : Tok) (hsp : Txt.split want (Str.ofString "...") = S [] :: (wl.map fun c => S [c]) ++ [S []])
    (hin : (Builtin.Str.occurrences want (Str.ofString "...") 0 want.length 1).isEmpty = false) (hw : want.length < 1000) (hgl : got.length < 1000) :
    Ctr w 2 21 [.str want t1, .str got t2] (fun v => v = .bool (wl.isSublist got.cps.toList)) := by
  unfold Ctr
  k_fill
  intro p loose mean mg mb news dp un gd cn cs a ccd cl outer A₀ base h₀ L m s Q E X B F N T hk hdp hun hret
  w_on
  refine wpAny_call ?_
  k_dflt (refine' code_def ?k1 ?k2 ?k3 ?k4 ?k5 ?kA ?kF ?kK ?k6 ?k7 ?k8 ?k9 ?kB ?_ ?c2 ?c3 ?c4 ?c5; (case kA => exact rfl); (case kF => exact rfl); (case kK => assumption); (case k1 => k_asm); (case k2 => k_asm); (case k3 => k_asm); (case k4 => k_asm); (case k5 => k_asm); (case k6 => k_is); (case k7 => k_is); (case k8 => (show dp < recursionLimit; omega)); (case k9 => exact BindsTo.of_eq rfl); (case c5 => decide); (case kB => exact locs rfl); (case c2 => exact rfl); (case c3 => exact rfl); (case c4 => exact rfl); k_whole; intro g' L' h' FG' F' N' B' X' T'; (try dsimp only); (try k_lift B'); (try k_fold))
  repeat' ((fail_if_success (with_reducible show wpAny _ _ (truthy (Value.str _ _)) _ _ _)); (first | (k_unfold; (try dsimp only)) | (k_end; wrow_close) | walk1 | (dsimp only; walk1) | (leave1; walk_say "STEP leave1"; try dsimp only) | fail "no step"))
  · rename (List.map _ _ = Txt.split _ _) => hlook
    rename (_[_]? = some _) => hy
    rename Str => y
    have hy0 : y = S [] := by
      rw [hlook, hsp] at hy; simpa using hy.symm
    subst hy0
    clear hy
    repeat' ((fail_if_success (with_reducible show wpAny _ _ (truthy (Value.str (List.getD _ _ _) _)) _ _ _)); (first | (k_unfold; (try dsimp only)) | (k_end; wrow_close) | walk1 | (dsimp only; walk1) | (leave1; walk_say "STEP leave1"; try dsimp only) | fail "no step"))
    rw [em_last hlook hsp]
    repeat' ((fail_if_success (with_reducible show wpAny _ _ (exec (Stmt.For _ _ _ _ _) _) _ _ _)); (first | (k_unfold; (try dsimp only)) | (k_end; wrow_close) | walk1 | (dsimp only; walk1) | (leave1; walk_say "STEP leave1"; try dsimp only) | fail "no step"))
    rename Fr _ _ _ _ => F9
    rename News _ _ _ _ => N9
    with_unfolding_all refine' For_invVF F9 ?k1 ?k2 ?_
    (case k1 => exact rfl)
    (case k2 => exact rfl)
    walk1
    rename_i te _
    refine' forVals (σ := Nat × Tok) (Led := fun _ => _) (mu := fun c y => if y = Str.ofString "startpos" then some (.int c.1 c.2) else if y = Str.ofString "got" then some (.str got t2) else if y = Str.ofString "endpos" then some (.int got.length _) else none)
      (kept := [Str.ofString "startpos", Str.ofString "got", Str.ofString "endpos"]) (P := fun i c => c.1 ≤ got.length ∧ wl.isSublist got.cps.toList = (wl.drop (i - 1)).isSublist (got.cps.toList.drop c.1)) (c₀ := (0, _)) (by rfl) (fun _ => ?hl) F9 N9 ?hm ⟨Nat.zero_le _, by simp⟩ (fun _ => rfl) ?turn ?done
    (case hl => k_mem)
    (case hm => repeat' (first | exact List.forall_mem_nil _ | refine List.forall_mem_cons.mpr ⟨by with_unfolding_all rfl, ?_⟩))
    (case turn =>
      intro c i v u h tk own hv hoff hP F8 N8
      obtain ⟨y, ty, rfl, hy⟩ := em_str hv
      rw [hlook, hsp] at hy
      have hyl : y.length ≤ 1 := em_one hy
      clear F9 N9
      repeat' ((fail_if_success (with_reducible show wpAny _ _ (call (Value.builtin "str.find") _ _) _ _ _)); (first | (k_unfold; (try dsimp only)) | (k_end; wrow_close) | walk1 | (dsimp only; walk1) | (leave1; walk_say "STEP leave1"; try dsimp only) | fail "no step"))
      refine find4 c.1 ?_ ?_
      · intro k r hk
        repeat' ((first | (k_unfold; (try dsimp only)) | (k_end; wrow_close) | walk1 | (dsimp only; walk1) | (leave1; walk_say "STEP leave1"; try dsimp only) | fail "no step"))
        refine' lpEnd (c := (k + y.length, _)) (by assumption) (by assumption) (fun p hp => List.mem_append_left _ hp) (fun p hp => List.mem_append_right _ hp) rfl (em_hit hy hP hk) ?_
        repeat' (first | exact List.forall_mem_nil _ | refine List.forall_mem_cons.mpr ⟨by with_unfolding_all rfl, ?_⟩)
      · intro hk
        repeat' ((first | (k_unfold; (try dsimp only)) | (k_end; wrow_close) | walk1 | (dsimp only; walk1) | (leave1; walk_say "STEP leave1"; try dsimp only) | fail "no step"))
        refine hret _ _ _ (by rw [em_miss hy hP hk]) (by assumption) (fun p hp => ?_)
        rename News h₀ L _ _ => kN
        exact kN p (List.mem_append_left _ (List.mem_cons_of_mem _ (List.mem_cons_of_mem _ hp))))
    (case done =>
      intro c u h tk hP F8 N8
      clear F9 N9
      dsimp only
      repeat' ((first | (k_unfold; (try dsimp only)) | (k_end; wrow_close) | walk1 | (dsimp only; walk1) | (leave1; walk_say "STEP leave1"; try dsimp only) | fail "no step"))
      refine hret _ _ _ ?_ (by assumption) (fun p hp => ?_)
      · rw [hP.2, List.drop_of_length_le]
        · simp [List.isSublist]
        · have := congrArg List.length hlook
          rw [hsp] at this
          simp [strValues] at this ⊢
          omega
      · rename News h₀ L _ _ => kN
        exact kN p (List.mem_cons_of_mem _ (List.mem_cons_of_mem _ hp)))
  · exfalso
    rename (List.map _ _ = Txt.split _ _) => hlook
    rename (¬ _ ≤ _) => hlt
    have := congrArg List.length hlook
    rw [hsp] at this
    simp at this hlt
    omega
end
section
/-- a block's own names, as an object -/
def DNs (o : Obj) (m : Str → Option Value) : Prop := ∃ es ep, o.data = .dict es ep ∧ StrKeys es ∧ ∀ name, nsFind es name = m name
theorem DNs.ns {h : Heap} {a : Addr} {o : Obj} {m : Str → Option Value} (d : DNs o m) (e : h.get? a = some o) : h.Ns a m := let ⟨es, ep, x⟩ := d; ⟨o, es, ep, e, x⟩
theorem dns_of {h : Heap} {a : Addr} {m : Str → Option Value} (n : h.Ns a m) : ∃ o, h.get? a = some o ∧ DNs o m := let ⟨o, es, ep, e, x⟩ := n; ⟨o, e, es, ep, x⟩

/-- a block between two turns: the frame, the ledger, the iterator I, the list D that grows, the block's names C -/
structure Blk (h₀ : Heap) (L : Addr) (m : Str → Option Value) (led : List (Addr × Obj)) (I D C : Addr) (oI : Obj) (ys : List Value) (oC : Obj) (h : Heap) : Prop where
  fr : Fr h₀ L h m
  led : News h₀ L h led
  it : h.get? I = some oI
  acc : ∃ k, h.get? D = some (listOf ys.toArray k)
  own : h.get? C = some oC

/-- where a block's three objects lie -/
structure Place (h₀ : Heap) (L I D C : Nat) : Prop where
  IL : I ≠ L
  DL : D ≠ L
  CL : C ≠ L
  I0 : h₀.get? I = none
  D0 : h₀.get? D = none
  C0 : h₀.get? C = none
  ID : I ≠ D
  DC : D ≠ C
  IC : I ≠ C
/-- a ledger apart from them -/
def Off (I D C : Nat) (led : List (Addr × Obj)) : Prop := ∀ q ∈ led, q.1 ≠ I ∧ q.1 ≠ D ∧ q.1 ≠ C

section
variable {h₀ : Heap} {L I D C X : Nat} {m : Str → Option Value} {led : List (Addr × Obj)} {oI oC : Obj} {ys : List Value} {h h' : Heap}
theorem frKeep (F : Fr h₀ L h m) (hL : X ≠ L) (h0 : h₀.get? X = none) (k : ∀ b o, b ≠ X → h.get? b = some o → h'.get? b = some o) : Fr h₀ L h' m := by
  obtain ⟨oL, es, ep, hl, r⟩ := F.ns
  exact ⟨⟨oL, es, ep, k _ _ (Ne.symm hL) hl, r⟩, fun b o e => k b o (fun q => by rw [q, h0] at e; cases e) (F.keep b o e), F.above⟩
theorem newsKeep (N : News h₀ L h led) (hl : ∀ p ∈ led, p.1 ≠ X) (k : ∀ b o, b ≠ X → h.get? b = some o → h'.get? b = some o) : News h₀ L h' led :=
  fun p hp => ⟨k _ _ (hl p hp) (N p hp).1, (N p hp).2⟩
theorem Blk.setOwn (B : Blk h₀ L m led I D C oI ys oC h) (P : Place h₀ L I D C) (hl : Off I D C led) {oC' : Obj} (hs : Heap.SameBut C h h') (e : h'.get? C = some oC') : Blk h₀ L m led I D C oI ys oC' h' := by
  have k : ∀ b o, b ≠ C → h.get? b = some o → h'.get? b = some o := fun b o hb q => (hs.2 b hb).trans q
  obtain ⟨n, ha⟩ := B.acc
  exact ⟨frKeep B.fr P.CL P.C0 k, newsKeep B.led (fun p hp => (hl p hp).2.2) k, (hs.2 _ P.IC).trans B.it, ⟨n, (hs.2 _ P.DC).trans ha⟩, e⟩
theorem Blk.setIt (B : Blk h₀ L m led I D C oI ys oC h) (P : Place h₀ L I D C) (hl : Off I D C led) {oI' : Obj} (k : ∀ b o, b ∉ [I] → h.get? b = some o → h'.get? b = some o) (e : h'.get? I = some oI') : Blk h₀ L m led I D C oI' ys oC h' := by
  have k' : ∀ b o, b ≠ I → h.get? b = some o → h'.get? b = some o := fun b o hb q => k b o (fun q' => hb (List.mem_singleton.mp q')) q
  obtain ⟨n, ha⟩ := B.acc
  exact ⟨frKeep B.fr P.IL P.I0 k', newsKeep B.led (fun p hp => (hl p hp).1) k', e, ⟨n, k' _ _ (Ne.symm P.ID) ha⟩, k' _ _ (Ne.symm P.IC) B.own⟩
end

section
variable {prog : Program} {w : World} {A : Around} {s : Shared} {h₀ : Heap} {L I D C : Nat} {m : Str → Option Value} {R : Result → Shared → Prop}

/-- what a turn of a block hands on -/
def CEnd {σ : Type} (h₀ : Heap) (L : Addr) (m : Str → Option Value) (I D C : Addr) (Led : σ → List (Addr × Obj)) (G : (Str → Option Value) → Prop) (P : σ → List Value → Prop) (oI : Obj) (s : Shared) (s' : Shared) : Prop :=
  ∃ c' ys' oC' mC' h' tk', s' = { s with heap := h', toks := tk' } ∧ P c' ys' ∧ (DNs oC' mC' ∧ G mC') ∧ Blk h₀ L m (Led c') I D C oI ys' oC' h'

theorem compLoopG {σ : Type} {elt : Expr} {gens : List Comprehension} {scope : Scope} {pos : Pos} {depth : Nat} {p : Pos} {x : Str} {px : Pos} {cenv : Env} {CONT : Sem Fin} (Led : σ → List (Addr × Obj)) (G : (Str → Option Value) → Prop) (P : Nat → σ → List Value → Prop) {fp : List Addr} {n : Nat} {Pv : Nat → Value → Prop} {St : Nat → Heap → Prop}
    (W : Walks prog w A I fp [I] n Pv St) (hStI : ∀ i h, St i h → ∃ o, h.get? I = some o) (hfp : ∀ b ∈ fp, b = I ∨ (∃ o, ∀ c, (b, o) ∈ Led c) ∨ (∃ o, h₀.get? b = some o)) (hadr : ∀ c, Off I D C (Led c)) (PL : Place h₀ L I D C)
    (heq : compTurn (.ListComp elt gens scope pos) depth (.ref I) (.ref D) cenv = (standAt p >>= fun _ => pyNext (.ref I) >>= fun r => match r with
      | none => pure (.done .next)
      | some v => letOwnedTupleGo (.Name x px) (.ref I) v >>= fun _ => assign (.Name x px) cenv v >>= fun _ => CONT))
    (hx : cenv.kindOf x = some .local) (hk : cenv.scope.kind = .function) (hC : cenv.locals = C) (hG : ∀ mC v, G mC → G (fun z => if z = x then some v else mC z))
    (turn : ∀ i c v ys oI oC mC h tk, Pv i v → i < n → P i c ys → (mC x = some v ∧ G mC) → DNs oC mC → Blk h₀ L m (Led c) I D C oI ys oC h →
      wpAny (model prog w) A CONT (fun fin s' => fin = .again (.compLoop (.ListComp elt gens scope pos) depth (.ref I) (.ref D) cenv) ∧ CEnd h₀ L m I D C Led G (P (i + 1)) oI s s') (fun _ _ => False) { s with heap := h, toks := tk })
    (done : ∀ c ys oC mC h tk, P n c ys → (DNs oC mC ∧ G mC) → Fr h₀ L h m → News h₀ L h (Led c) → (∃ k, h.get? D = some (listOf ys.toArray k)) → h.get? C = some oC → R (.ok .next) { s with heap := h, toks := tk })
    {c : σ} {ys : List Value} {oI oC : Obj} {mC : Str → Option Value} {h : Heap} {tk : Nat} (hst : St 0 h) (hP : P 0 c ys) (hd : DNs oC mC ∧ G mC) (hB : Blk h₀ L m (Led c) I D C oI ys oC h) :
    codeAny (model prog w) A (.compLoop (.ListComp elt gens scope pos) depth (.ref I) (.ref D) cenv) R { s with heap := h, toks := tk } := by
  refine codeAny_loop rfl (fun k s' => ∃ i c ys oI oC mC h tk, k = n - i ∧ i ≤ n ∧ s' = { s with heap := h, toks := tk } ∧ St i h ∧ P i c ys ∧ (DNs oC mC ∧ G mC) ∧ Blk h₀ L m (Led c) I D C oI ys oC h) ?_ n ⟨0, c, ys, oI, oC, mC, h, tk, by omega, by omega, rfl, hst, hP, hd, hB⟩
  rintro k s' ⟨i, c, ys, oI, oC, mC, h, tk, hk', hi, rfl, hst, hP, hd, hB⟩
  show wpAny _ A ((compTurn (.ListComp elt gens scope pos) depth (.ref I) (.ref D) cenv).onRaise (fun x => do noteFrame x cenv; theTreesLotGoes x)) _ _ _
  refine wpAny_noted ?_
  rw [heq]
  refine wpAny_bind (wpAny_standAt (wpAny_bind ?_))
  rcases Nat.lt_or_ge i n with hin | hin
  · refine W.item i _ _ _ hin hst fun v h1 tk1 hv hst1 k1 => ?_
    obtain ⟨oI1, hI1⟩ := hStI _ _ hst1
    have hB1 := hB.setIt PL (hadr c) k1 hI1
    refine wpAny_bind (wpAny_of_eq (show letOwnedTupleGo (.Name x px) (.ref I) v = pure () from rfl) (wpAny_bind (wpAny_assign_Name ?_)))
    refine wpAny_storeName_local (env := cenv) hx (by rw [hC]; exact hd.1.ns hB1.own) (fun h2 hn2 hs2 => ?_) (by rw [hk]; rfl)
    rw [hC] at hn2 hs2
    obtain ⟨oC2, hC2, hd2⟩ := dns_of hn2
    have hB2 := hB1.setOwn PL (hadr c) hs2 hC2
    refine wpAny_mono (turn i c v ys oI1 oC2 _ h2 _ hv hin hP ⟨by simp, hG _ _ hd.2⟩ hd2 hB2) (fun fin s3 h3 => ?_) (fun _ _ f => f.elim)
    obtain ⟨rfl, c', ys', oC', mC', h', tk', rfl, hP', hd', hB'⟩ := h3
    refine ⟨rfl, n - (i + 1), by omega, i + 1, c', ys', oI1, oC', mC', h', tk', rfl, by omega, rfl, ?_, hP', hd', hB'⟩
    refine W.frame _ _ _ hst1 fun b hb o e => ?_
    have e2 : h1.get? b = some o := e
    rcases hfp b hb with rfl | ⟨o', ho'⟩ | ⟨o', ho'⟩
    · rw [hI1] at e2; cases e2; exact hB'.it
    · have := (hB1.led _ (ho' c)).1
      rw [this] at e2; cases e2
      exact (hB'.led _ (ho' c')).1
    · have := hB1.fr.keep b o' ho'
      rw [this] at e2; cases e2
      exact hB'.fr.keep b _ ho'
  · have hin' : i = n := by omega
    subst hin'
    refine W.done _ _ _ hst fun h1 tk1 k1 => wpAny_pure ?_
    have k' : ∀ b o, b ≠ I → h.get? b = some o → h1.get? b = some o := fun b o hb q => k1 b o (fun q' => hb (List.mem_singleton.mp q')) q
    obtain ⟨j, ha⟩ := hB.acc
    exact done c ys oC mC h1 tk1 hP hd (frKeep hB.fr PL.IL PL.I0 k') (newsKeep hB.led (fun p hp => (hadr c p hp).1) k') ⟨j, k1 _ _ (fun q => PL.ID (List.mem_singleton.mp q).symm) ha⟩ (k1 _ _ (fun q => PL.IC (List.mem_singleton.mp q).symm) hB.own)

theorem Blk.news {led : List (Addr × Obj)} {oI oC : Obj} {ys : List Value} {h : Heap} (B : Blk h₀ L m led I D C oI ys oC h) (PL : Place h₀ L I D C) : ∃ k, News h₀ L h ((C, oC) :: (I, oI) :: (D, listOf ys.toArray k) :: led) := by
  obtain ⟨k, ha⟩ := B.acc
  refine ⟨k, fun p hp => ?_⟩
  rcases List.mem_cons.mp hp with rfl | hp
  · exact ⟨B.own, PL.CL, PL.C0⟩
  rcases List.mem_cons.mp hp with rfl | hp
  · exact ⟨B.it, PL.IL, PL.I0⟩
  rcases List.mem_cons.mp hp with rfl | hp
  · exact ⟨ha, PL.DL, PL.D0⟩
  · exact B.led p hp
theorem Blk.of {led : List (Addr × Obj)} {oI oC : Obj} {ys : List Value} {h : Heap} {k : Nat} (F : Fr h₀ L h m) (N : News h₀ L h ((C, oC) :: (I, oI) :: (D, listOf ys.toArray k) :: led)) : Blk h₀ L m led I D C oI ys oC h :=
  ⟨F, fun p hp => N p (.tail _ (.tail _ (.tail _ hp))), (N _ (.tail _ (.head _))).1, ⟨k, (N _ (.tail _ (.tail _ (.head _)))).1⟩, (N _ (.head _)).1⟩

/-- what an element's evaluation hands on -/
def EltEnd {σ : Type} (h₀ : Heap) (L : Addr) (m : Str → Option Value) (I D C : Addr) (Led : σ → List (Addr × Obj)) (oI oC : Obj) (ys : List Value) (k : Nat) (P : σ → Prop) (s : Shared) (s' : Shared) : Prop :=
  ∃ c' h' tk', s' = { s with heap := h', toks := tk' } ∧ P c' ∧ Fr h₀ L h' m ∧ News h₀ L h' ((C, oC) :: (I, oI) :: (D, listOf ys.toArray k) :: Led c')

theorem emitG {σ : Type} {Led : σ → List (Addr × Obj)} {P : σ → List Value → Prop} {elt : Expr} {cenv : Env} {oI oC : Obj} {mC : Str → Option Value} {ys : List Value} {k : Nat} {s₁ : Shared} {Q : Unit → Shared → Prop}
    {G : (Str → Option Value) → Prop} (PL : Place h₀ L I D C) (hadr : ∀ c, Off I D C (Led c)) (hd : DNs oC mC ∧ G mC) (hsz : ys.length ≤ sizeLine)
    (h : wpAny (model prog w) A (eval elt cenv) (fun y s' => EltEnd h₀ L m I D C Led oI oC ys k (fun c => P c (ys ++ [y])) s s') (fun _ _ => False) s₁)
    (hQ : ∀ s', CEnd h₀ L m I D C Led G P oI s s' → Q () s') :
    wpAny (model prog w) A (eval elt cenv >>= fun y => call (.builtin "list.append") [.ref D, y] >>= fun _ => pure ()) Q (fun _ _ => False) s₁ := by
  refine wpAny_bind (wpAny_mono h (fun y s' hy => ?_) fun _ _ f => f)
  obtain ⟨c', h', tk', rfl, hP, F, N⟩ := hy
  have hD : ∀ p ∈ Led c', p.1 ≠ D := fun p hp => (hadr c' p hp).2.1
  refine wpAny_bind (append_K F N (.tail (Ne.symm PL.DC) (.tail PL.ID (.head hD))) (fun h2 F2 N2 => wpAny_pure (hQ _ ?_)) (by simpa using hsz))
  have e : (ys.toArray.push y) = (ys ++ [y]).toArray := by simp
  rw [e] at N2
  exact ⟨c', _, oC, mC, h2, tk', rfl, hP, hd, Blk.of F2 N2⟩

/-- one clause, no test -/
theorem contPlain {σ : Type} {Led : σ → List (Addr × Obj)} {P : σ → List Value → Prop} {elt : Expr} {cenv : Env} {oI oC : Obj} {mC : Str → Option Value} {ys : List Value} {k : Nat} {s₁ : Shared} {code : Code}
    {G : (Str → Option Value) → Prop} (PL : Place h₀ L I D C) (hadr : ∀ c, Off I D C (Led c)) (hd : DNs oC mC ∧ G mC) (hsz : ys.length ≤ sizeLine)
    (h : wpAny (model prog w) A (eval elt cenv) (fun y s' => EltEnd h₀ L m I D C Led oI oC ys k (fun c => P c (ys ++ [y])) s s') (fun _ _ => False) s₁) :
    wpAny (model prog w) A ((eval elt cenv >>= fun y => call (.builtin "list.append") [.ref D, y] >>= fun _ => pure ()) >>= fun _ => again code)
      (fun fin s' => fin = .again code ∧ CEnd h₀ L m I D C Led G P oI s s') (fun _ _ => False) s₁ :=
  wpAny_bind (emitG PL hadr hd hsz h fun s' hs => wpAny_pure ⟨rfl, hs⟩)

/-- one clause, one test -/
theorem contTest {σ : Type} {Led : σ → List (Addr × Obj)} {P : σ → List Value → Prop} {elt t : Expr} {cenv : Env} {oI oC : Obj} {mC : Str → Option Value} {ys : List Value} {k : Nat} {s₁ : Shared} {code : Code} {CONT : Sem Fin}
    {G : (Str → Option Value) → Prop} (PL : Place h₀ L I D C) (hadr : ∀ c, Off I D C (Led c)) (hd : DNs oC mC ∧ G mC) (hsz : ys.length ≤ sizeLine)
    (hC : CONT = (forIn [t] true (fun c r => if r = true then do let ok ← isTrue c cenv (eval c cenv); pure (ForInStep.yield ok) else pure (ForInStep.yield r)) >>= fun ok =>
      if ok = true then (eval elt cenv >>= fun y => call (.builtin "list.append") [.ref D, y] >>= fun _ => pure ()) >>= fun _ => again code else again code))
    (h : wpAny (model prog w) A (isTrue t cenv (eval t cenv)) (fun ok s₂ => if ok = true then wpAny (model prog w) A (eval elt cenv) (fun y s' => EltEnd h₀ L m I D C Led oI oC ys k (fun c => P c (ys ++ [y])) s s') (fun _ _ => False) s₂
      else EltEnd h₀ L m I D C Led oI oC ys k (fun c => P c ys) s s₂) (fun _ _ => False) s₁) :
    wpAny (model prog w) A CONT (fun fin s' => fin = .again code ∧ CEnd h₀ L m I D C Led G P oI s s') (fun _ _ => False) s₁ := by
  subst hC
  refine wpAny_bind (wpAny_tests_one (wpAny_mono h (fun ok s₂ h₂ => ?_) fun _ _ f => f))
  cases ok with
  | true =>
    simp only [if_true] at h₂ ⊢
    exact contPlain PL hadr hd hsz h₂
  | false =>
    simp only [Bool.false_eq_true, if_false] at h₂ ⊢
    obtain ⟨c', h', tk', rfl, hP, F, N⟩ := h₂
    exact wpAny_pure ⟨rfl, c', _, oC, mC, h', tk', rfl, hP, hd, Blk.of F N⟩

/-- the whole block behind the first iterator: the new list, the block's names, the loop, the list handed on -/
theorem lcBlock {elt target iter : Expr} {ifs : List Expr} {rest : List Comprehension} {scope : Scope} {cl : List (Str × Addr)} {pos : Pos} {env : Env} {E : Value → Shared → Prop} {use : Option (Value → Sem Unit)} {Q : Value → Shared → Prop} {s₂ : Shared}
    {fp : List Addr} {n : Nat} {Pv : Nat → Value → Prop} {St : Nat → Heap → Prop} (W : Walks prog w A I fp [I] n Pv St)
    (hcell : ∀ y ∈ scope.names, y.2 ≠ .cell) (hkind : scope.kind = .function) (hst : St 0 s₂.heap) (F : Fr h₀ L s₂.heap m) {led : List (Addr × Obj)} (N : News h₀ L s₂.heap led) (hi : ∃ oI, s₂.heap.get? I = some oI)
    (loop : ∀ D C oI oC mC h tk, D = s₂.heap.objs.size → C = s₂.heap.objs.size + 1 → St 0 h → DNs oC mC → Blk h₀ L m led I D C oI [] oC h →
      codeAny (model prog w) A (.compLoop (.ListComp elt (⟨target, iter, ifs, 0⟩ :: rest) scope pos) 0 (.ref I) (.ref D) (compEnvC scope cl C env)) (compPost (model prog w) A E use Q (.ref D) C) { s₂ with heap := h, toks := tk }) :
    wpAny (model prog w) A (newList []) (fun acc s₃ => wpAny (model prog w) A (newFunctionEnv scope env.globals cl [] env.qual none .none (some env)) (fun cenv s₄ =>
      codeAny (model prog w) A (.compStart (.ListComp elt (⟨target, iter, ifs, 0⟩ :: rest) scope pos) 0 (.ref I) acc { cenv with scope := relabel scope env }) (compPost (model prog w) A E use Q acc cenv.locals) s₄) E s₃) E s₂ := by
  refine wpAny_newObj_type (wpAny_newFunctionEnv hcell (by intro y hy; simp at hy) (fun h₁ hns₁ hsb₁ => ?_) hkind)
  dsimp only at hns₁ hsb₁ ⊢
  have hsz : (s₂.heap.push { cls := .type "list", data := .seq ([] : List Value).toArray }).objs.size = s₂.heap.objs.size + 1 := Heap.size_push ..
  have old : ∀ b o, s₂.heap.get? b = some o → h₁.get? b = some o := fun b o e =>
    (hsb₁.2 b (by rw [hsz]; exact Nat.ne_of_lt (Nat.lt_succ_of_lt (Heap.lt_size e)))).trans (Heap.get?_push_of_some _ (Heap.get?_push_of_some _ e))
  have hacc : h₁.get? s₂.heap.objs.size = some (listOf ([] : List Value).toArray 0) :=
    (hsb₁.2 _ (by rw [hsz]; exact Nat.ne_of_lt (Nat.lt_succ_self _))).trans (Heap.get?_push_of_some _ (Heap.get?_push_size _ rfl))
  obtain ⟨oI, hoI⟩ := hi
  obtain ⟨oC, hoC, hd⟩ := dns_of hns₁
  have hst₁ : St 0 h₁ := W.frame _ _ _ hst fun b _ o e => old b o e
  rw [hsz] at hoC
  have B : Blk h₀ L m led I s₂.heap.objs.size (s₂.heap.objs.size + 1) oI [] oC h₁ := by
    obtain ⟨oL, es, ep, hl, r⟩ := F.ns
    exact ⟨⟨⟨oL, es, ep, old _ _ hl, r⟩, fun b o e => old b o (F.keep b o e), F.above⟩, fun p hp => ⟨old _ _ (N p hp).1, (N p hp).2⟩, old _ _ hoI, ⟨0, hacc⟩, hoC⟩
  have go := loop _ _ oI oC _ h₁ (s₂.toks + ([] : List (Str × Value)).length) rfl rfl hst₁ hd B
  have e : newEnv scope (s₂.heap.push { cls := .type "list", data := .seq ([] : List Value).toArray }).objs.size env.globals cl env.qual none .none (some env) builtinsNs = { compEnvC scope cl (s₂.heap.objs.size + 1) env with scope := scope } := by
    rw [hsz]; rfl
  rw [e]
  exact codeAny_compStart_list go (W.self 0 _ _ _ hst₁ go)

/-- an iterator I over n values: what is told of it -/
def Src {σ : Type} (prog : Program) (w : World) (A : Around) (h₀ : Heap) (Led : σ → List (Addr × Obj)) (I : Addr) (n : Nat) (Pv : Nat → Value → Prop) (h : Heap) : Prop :=
  ∃ fp St, Walks prog w A I fp [I] n Pv St ∧ (∀ i h, St i h → ∃ o, h.get? I = some o) ∧ (∀ b ∈ fp, b = I ∨ (∃ o, ∀ c, (b, o) ∈ Led c) ∨ (∃ o, h₀.get? b = some o)) ∧ St 0 h

theorem src_it {σ : Type} {Led : σ → List (Addr × Obj)} {n : Nat} {Pv : Nat → Value → Prop} {h : Heap} (S : Src prog w A h₀ Led I n Pv h) : ∃ o, h.get? I = some o := let ⟨_, _, _, hi, _, st⟩ := S; hi _ _ st
theorem src_list {σ : Type} {Led : σ → List (Addr × Obj)} {l : Addr} {vs : List Value} {Q : Value → Shared → Prop} {E : Value → Shared → Prop} (hh : A.handled = none) (hl : s.heap.IsList l vs.toArray)
    (hw : (∃ o, ∀ c, (l, o) ∈ Led c) ∨ (∃ o, h₀.get? l = some o))
    (h : ∀ o, Src prog w A h₀ Led s.heap.objs.size vs.length (fun i v => vs[i]? = some v) (s.heap.push o) → Q (.ref s.heap.objs.size) { s with heap := s.heap.push o }) : wpAny (model prog w) A (pyIter (.ref l)) Q E s := by
  have hl' := hl
  obtain ⟨ol, hol, _⟩ := hl'
  have hne : l ≠ s.heap.objs.size := Nat.ne_of_lt (Heap.lt_size hol)
  refine wpAny_pyIter_list hl (h _ ?_)
  have W := Walks.list (prog := prog) (w := w) hh s.heap.objs.size l hne vs.toArray
  rw [show vs.toArray.size = vs.length by simp] at W
  refine ⟨[s.heap.objs.size, l], fun i h => h.IsListIter s.heap.objs.size l i ∧ h.IsList l vs.toArray, ?_, ?_, ?_, ⟨⟨_, Heap.get?_push_size _ rfl, rfl, rfl⟩, hl.at fun o e => Heap.get?_push_of_some _ e⟩⟩
  · have e : (fun (i : Nat) (v : Value) => vs.toArray[i]? = some v) = (fun i v => vs[i]? = some v) := by funext i v; simp
    rw [e] at W; exact W
  · rintro i h ⟨⟨o, ho, _⟩, _⟩; exact ⟨o, ho⟩
  · intro b hb
    rcases List.mem_cons.mp hb with rfl | hb
    · exact .inl rfl
    · rw [List.mem_singleton.mp hb]; exact .inr hw
theorem src_str {σ : Type} {Led : σ → List (Addr × Obj)} {x : Str} {t : Tok} {Q : Value → Shared → Prop} {E : Value → Shared → Prop} (hh : A.handled = none)
    (h : ∀ o, Src prog w A h₀ Led s.heap.objs.size x.cps.size (SignAt x) (s.heap.push o) → Q (.ref s.heap.objs.size) { s with heap := s.heap.push o }) : wpAny (model prog w) A (pyIter (.str x t)) Q E s := by
  have hfp : ∀ b ∈ [s.heap.objs.size], b = s.heap.objs.size ∨ (∃ o, ∀ c, (b, o) ∈ Led c) ∨ (∃ o, h₀.get? b = some o) := fun b hb => .inl (List.mem_singleton.mp hb)
  cases ha : x.cps.all (· < 128)
  · exact wpAny_pyIter_wide ha (h _ ⟨_, _, Walks.strWide hh _ x t, (fun i h ⟨o, ho, _⟩ => ⟨o, ho⟩), hfp, ⟨_, Heap.get?_push_size _ rfl, rfl, rfl⟩⟩)
  · exact wpAny_pyIter_ascii ha (h _ ⟨_, _, Walks.strAscii hh _ x t, (fun i h ⟨o, ho, _⟩ => ⟨o, ho⟩), hfp, ⟨_, Heap.get?_push_size _ rfl, rfl, rfl⟩⟩)
theorem src_range {σ : Type} {Led : σ → List (Addr × Obj)} {r : Addr} {n : Nat} {t u v : Tok} {Q : Value → Shared → Prop} {E : Value → Shared → Prop} (hh : A.handled = none) (hr : IsRange s.heap r 0 (n : Int) 1 t u v) (hn : n < 2 ^ 30)
    (h : ∀ o, Src prog w A h₀ Led s.heap.objs.size n (fun i v => ∃ t, v = .int (i : Int) t) (s.heap.push o) → Q (.ref s.heap.objs.size) { s with heap := s.heap.push o }) : wpAny (model prog w) A (pyIter (.ref r)) Q E s := by
  have hsz : Builtin.Range.rangeSize 0 (n : Int) 1 = (n : Int) := by
    have := rangeSize_nat 0 (n : Int)
    rw [this]; simp
  refine wpAny_pyIter_range hr ?_ (h _ ?_)
  · unfold Builtin.Range.small Builtin.Range.rangeFitsLong
    rw [hsz]
    simp
    omega
  have W := Walks.range (prog := prog) (w := w) hh s.heap.objs.size 0 1 n
  have e : (fun (i : Nat) (v : Value) => ∃ t, v = Value.int (0 + (i : Int) * 1) t) = (fun i v => ∃ t, v = .int (i : Int) t) := by funext i v; simp
  rw [e] at W
  exact ⟨_, _, W, (fun i h st => ⟨_, st⟩), (fun b hb => .inl (List.mem_singleton.mp hb)), by show IsRangeIter _ _ _ _ _; rw [hsz]; simpa using Heap.get?_push_size _ rfl⟩

/-- a block behind its first iterator, whatever its clauses -/
theorem lcGen {σ : Type} {elt iter : Expr} {x : Str} {px : Pos} {ifs : List Expr} {rest : List Comprehension} {scope : Scope} {cl : List (Str × Addr)} {pos p : Pos} {env : Env} {E : Value → Shared → Prop} {use : Option (Value → Sem Unit)} {Q : Value → Shared → Prop} {s₂ : Shared} {n : Nat} {Pv : Nat → Value → Prop} {CONT : Addr → Addr → Sem Fin}
    (Led : σ → List (Addr × Obj)) (P : Nat → σ → List Value → Prop) (c₀ : σ) (hS : Src prog w A h₀ Led I n Pv s₂.heap)
    (hcell : ∀ y ∈ scope.names, y.2 ≠ .cell) (hkind : scope.kind = .function) (hx : scope.names.lookup x = some .local)
    (F : Fr h₀ L s₂.heap m) (N : News h₀ L s₂.heap (Led c₀)) (hadr : ∀ c, ∀ q ∈ Led c, q.1 < I) (hL : L < I) (hI : I < s₂.heap.objs.size) (hP : P 0 c₀ [])
    (heq : ∀ D C, compTurn (.ListComp elt (⟨.Name x px, iter, ifs, 0⟩ :: rest) scope pos) 0 (.ref I) (.ref D) (compEnvC scope cl C env) = (standAt p >>= fun _ => pyNext (.ref I) >>= fun r => match r with
      | none => pure (.done .next)
      | some v => letOwnedTupleGo (.Name x px) (.ref I) v >>= fun _ => assign (.Name x px) (compEnvC scope cl C env) v >>= fun _ => CONT D C))
    (turn : ∀ (D C : Nat) i c v ys oI oC mC h tk, I < D → D < C → Place h₀ L I D C → (∀ c, Off I D C (Led c)) → Pv i v → i < n → P i c ys → mC x = some v → DNs oC mC → Blk h₀ L m (Led c) I D C oI ys oC h → C < h.objs.size →
      wpAny (model prog w) A (CONT D C) (fun fin s' => fin = .again (.compLoop (.ListComp elt (⟨.Name x px, iter, ifs, 0⟩ :: rest) scope pos) 0 (.ref I) (.ref D) (compEnvC scope cl C env)) ∧ CEnd h₀ L m I D C Led (fun _ => True) (P (i + 1)) oI s₂ s') (fun _ _ => False) { s₂ with heap := h, toks := tk })
    (fin : ∀ (D C : Nat) c ys mC k h tk, I < D → D < C → P n c ys → h.Ns C mC → Place h₀ L I D C → Fr h₀ L h m → News h₀ L h ((D, listOf ys.toArray k) :: Led c) → (∀ q ∈ Led c, q.1 < D) → compPost (model prog w) A E use Q (.ref D) C (.ok .next) { s₂ with heap := h, toks := tk }) :
    wpAny (model prog w) A (newList []) (fun acc s₃ => wpAny (model prog w) A (newFunctionEnv scope env.globals cl [] env.qual none .none (some env)) (fun cenv s₄ =>
      codeAny (model prog w) A (.compStart (.ListComp elt (⟨.Name x px, iter, ifs, 0⟩ :: rest) scope pos) 0 (.ref I) acc { cenv with scope := relabel scope env }) (compPost (model prog w) A E use Q acc cenv.locals) s₄) E s₃) E s₂ := by
  obtain ⟨fp, St, W, hStI, hfp, hst⟩ := hS
  refine lcBlock W hcell hkind hst F N (hStI _ _ hst) fun (D : Nat) (C : Nat) oI oC mC h tk hD hC hst' hd B => ?_
  have fr : ∀ b, I ≤ b → h₀.get? b = none := fun b hb => Heap.get?_none_of_le (Nat.le_trans F.above (Nat.le_trans (Nat.le_of_lt hL) hb))
  have PL : Place h₀ L I D C := ⟨by omega, by omega, by omega, fr _ (by omega), fr _ (by omega), fr _ (by omega), by omega, by omega, by omega⟩
  have hoff : ∀ c, Off I D C (Led c) := fun c q hq => ⟨Nat.ne_of_lt (hadr c q hq), Nat.ne_of_lt (Nat.lt_trans (hadr c q hq) (show I < D by omega)), Nat.ne_of_lt (Nat.lt_trans (hadr c q hq) (show I < C by omega))⟩
  refine compLoopG (s := s₂) Led (fun _ => True) P W hStI hfp hoff PL (heq D C) (lookup_relabel_local hx) (by simp [compEnvC, relabel, hkind]) rfl (fun _ _ _ => trivial) ?_ ?_ hst' hP ⟨hd, trivial⟩ B
  · intro i c v ys oI oC mC h tk hv hi hP' hm hd B
    exact turn D C i c v ys oI oC mC h tk (by omega) (by omega) PL hoff hv hi hP' hm.1 hd B (Heap.lt_size B.own)
  · intro c ys oC mC h tk hP' hd F' N' hacc hown
    obtain ⟨k, ha⟩ := hacc
    refine fin D C c ys mC k h tk (by omega) (by omega) hP' (hd.1.ns hown) PL F' (fun p hp => ?_) (fun q hq => Nat.lt_trans (hadr c q hq) (show I < D by omega))
    rcases List.mem_cons.mp hp with rfl | hp
    · exact ⟨ha, PL.DL, PL.D0⟩
    · exact N' p hp
/-- the list is handed on -/
theorem finNone {C D : Nat} {led : List (Addr × Obj)} {oD : Obj} {mC : Str → Option Value} {h : Heap} {tk : Nat} {s₂ : Shared} {E : Value → Shared → Prop} {Q : Value → Shared → Prop} (PL : Place h₀ L I D C) (hn : h.Ns C mC) (F : Fr h₀ L h m) (N : News h₀ L h ((D, oD) :: led)) (hl : ∀ q ∈ led, q.1 < D) (hDC : D < C)
    (hQ : ∀ h', Fr h₀ L h' m → News h₀ L h' ((D, oD) :: led) → Q (.ref D) { s₂ with heap := h', toks := tk }) :
    compPost (model prog w) A E none Q (.ref D) C (.ok .next) { s₂ with heap := h, toks := tk } := by
  refine ⟨mC, hn, fun h2 hs2 => ?_⟩
  have k2 : ∀ b o, b ≠ C → h.get? b = some o → h2.get? b = some o := fun b o hb e => (hs2.2 b hb).trans e
  refine hQ h2 (frKeep F PL.CL PL.C0 k2) (newsKeep N (fun p hp => ?_) k2)
  rcases List.mem_cons.mp hp with rfl | hp
  · exact PL.DC
  · exact Nat.ne_of_lt (Nat.lt_trans (hl p hp) hDC)
/-- the list is stored under a name of the frame -/
theorem finAssign {C D : Nat} {led : List (Addr × Obj)} {oD : Obj} {mC : Str → Option Value} {h : Heap} {tk : Nat} {s₂ : Shared} {E : Value → Shared → Prop} {Q : Value → Shared → Prop} {env : Env} {y : Str} {py : Pos} (PL : Place h₀ L I D C) (hn : h.Ns C mC) (F : Fr h₀ L h m) (N : News h₀ L h ((D, oD) :: led)) (hl : ∀ q ∈ led, q.1 < D) (hDC : D < C)
    (hloc : env.locals = L) (hy : env.kindOf y = some .local) (hk : env.scope.kind = .function)
    (hQ : ∀ h', Fr h₀ L h' (fun z => if z = y then some (.ref D) else m z) → News h₀ L h' ((D, oD) :: led) → Q .none { s₂ with heap := h', toks := tk + 1 }) :
    compPost (model prog w) A E (some (assign (.Name y py) env)) Q (.ref D) C (.ok .next) { s₂ with heap := h, toks := tk } := by
  show wpAny _ _ (assign (.Name y py) env (.ref D)) _ _ _
  refine wpAny_assign_Name (wpAny_storeName_local hy (by rw [hloc]; exact F.ns) (fun h1 hn1 hs1 => ?_) (by rw [hk]; rfl))
  rw [hloc] at hn1 hs1
  refine ⟨mC, hn.sameBut hs1 PL.CL, fun h2 hs2 => ?_⟩
  have k2 : ∀ b o, b ≠ C → h1.get? b = some o → h2.get? b = some o := fun b o hb e => (hs2.2 b hb).trans e
  refine hQ h2 (frKeep (F.set hn1 hs1) PL.CL PL.C0 k2) (newsKeep (N.set hs1) (fun p hp => ?_) k2)
  rcases List.mem_cons.mp hp with rfl | hp
  · exact PL.DC
  · exact Nat.ne_of_lt (Nat.lt_trans (hl p hp) hDC)

/-- one clause, no test: the list handed on, or stored -/
theorem lcOne {σ : Type} {elt iter : Expr} {x : Str} {px : Pos} {scope : Scope} {cl : List (Str × Addr)} {pos : Pos} {env : Env} {E : Value → Shared → Prop} {use : Option (Value → Sem Unit)} {Q : Value → Shared → Prop} {s₂ : Shared} {n : Nat} {Pv : Nat → Value → Prop}
    (Led : σ → List (Addr × Obj)) (P : Nat → σ → List Value → Prop) (c₀ : σ) (hS : Src prog w A h₀ Led I n Pv s₂.heap)
    (hcell : ∀ y ∈ scope.names, y.2 ≠ .cell) (hkind : scope.kind = .function) (hx : scope.names.lookup x = some .local)
    (F : Fr h₀ L s₂.heap m) (N : News h₀ L s₂.heap (Led c₀)) (hadr : ∀ c, ∀ q ∈ Led c, q.1 < I) (hL : L < I) (hI : I < s₂.heap.objs.size) (hP : P 0 c₀ [])
    (hlen : ∀ i c ys, P i c ys → ys.length ≤ sizeLine)
    (turn : ∀ (D C : Nat) i c v ys oI oC mC k h tk, I < D → D < C → Pv i v → i < n → P i c ys → mC x = some v → DNs oC mC → Fr h₀ L h m → News h₀ L h ((C, oC) :: (I, oI) :: (D, listOf ys.toArray k) :: Led c) →
      wpAny (model prog w) A (eval elt (compEnvC scope cl C env)) (fun y s' => EltEnd h₀ L m I D C Led oI oC ys k (fun c => P (i + 1) c (ys ++ [y])) s₂ s') (fun _ _ => False) { s₂ with heap := h, toks := tk })
    (fin : ∀ (D C : Nat) c ys mC k h tk, I < D → D < C → P n c ys → h.Ns C mC → Place h₀ L I D C → Fr h₀ L h m → News h₀ L h ((D, listOf ys.toArray k) :: Led c) → (∀ q ∈ Led c, q.1 < D) → compPost (model prog w) A E use Q (.ref D) C (.ok .next) { s₂ with heap := h, toks := tk }) :
    wpAny (model prog w) A (newList []) (fun acc s₃ => wpAny (model prog w) A (newFunctionEnv scope env.globals cl [] env.qual none .none (some env)) (fun cenv s₄ =>
      codeAny (model prog w) A (.compStart (.ListComp elt [⟨.Name x px, iter, [], 0⟩] scope pos) 0 (.ref I) acc { cenv with scope := relabel scope env }) (compPost (model prog w) A E use Q acc cenv.locals) s₄) E s₃) E s₂ := by
  refine lcGen Led P c₀ hS hcell hkind hx F N hadr hL hI hP (fun D C => compTurn_list1 elt (.Name x px) iter scope pos (.ref I) (.ref D) (compEnvC scope cl C env)) ?_ fin
  intro D C i c v ys oI oC mC h tk hID hDC PL hoff hv hi hP' hm hd B _
  obtain ⟨k, N'⟩ := B.news PL
  exact contPlain PL hoff ⟨hd, trivial⟩ (hlen _ _ _ hP') (turn D C i c v ys oI oC mC k h tk hID hDC hv hi hP' hm hd B.fr N')

theorem compTurn_test1 (elt target iter t : Expr) (scope : Scope) (pos : Pos) (it acc : Value) (env : Env) :
    compTurn (.ListComp elt [⟨target, iter, [t], 0⟩] scope pos) 0 it acc env = (standAt iter.pos >>= fun _ => pyNext it >>= fun r => match r with
      | none => pure (.done .next)
      | some v => letOwnedTupleGo target it v >>= fun _ => assign target env v >>= fun _ =>
        forIn [t] true (fun c r => if r = true then do let ok ← isTrue c env (eval c env); pure (ForInStep.yield ok) else pure (ForInStep.yield r)) >>= fun ok =>
          if ok = true then (eval elt env >>= fun y => call (.builtin "list.append") [acc, y] >>= fun _ => pure ()) >>= fun _ => again (.compLoop (.ListComp elt [⟨target, iter, [t], 0⟩] scope pos) 0 it acc env)
          else again (.compLoop (.ListComp elt [⟨target, iter, [t], 0⟩] scope pos) 0 it acc env)) := by rfl
/-- one clause, one test -/
theorem lcTest {σ : Type} {elt iter t : Expr} {x : Str} {px : Pos} {scope : Scope} {cl : List (Str × Addr)} {pos : Pos} {env : Env} {E : Value → Shared → Prop} {use : Option (Value → Sem Unit)} {Q : Value → Shared → Prop} {s₂ : Shared} {n : Nat} {Pv : Nat → Value → Prop}
    (Led : σ → List (Addr × Obj)) (P : Nat → σ → List Value → Prop) (c₀ : σ) (hS : Src prog w A h₀ Led I n Pv s₂.heap)
    (hcell : ∀ y ∈ scope.names, y.2 ≠ .cell) (hkind : scope.kind = .function) (hx : scope.names.lookup x = some .local)
    (F : Fr h₀ L s₂.heap m) (N : News h₀ L s₂.heap (Led c₀)) (hadr : ∀ c, ∀ q ∈ Led c, q.1 < I) (hL : L < I) (hI : I < s₂.heap.objs.size) (hP : P 0 c₀ [])
    (hlen : ∀ i c ys, P i c ys → ys.length ≤ sizeLine)
    (turn : ∀ (D C : Nat) i c v ys oI oC mC k h tk, I < D → D < C → Pv i v → i < n → P i c ys → mC x = some v → DNs oC mC → Fr h₀ L h m → News h₀ L h ((C, oC) :: (I, oI) :: (D, listOf ys.toArray k) :: Led c) →
      wpAny (model prog w) A (isTrue t (compEnvC scope cl C env) (eval t (compEnvC scope cl C env))) (fun ok s' => if ok = true then
          wpAny (model prog w) A (eval elt (compEnvC scope cl C env)) (fun y s' => EltEnd h₀ L m I D C Led oI oC ys k (fun c => P (i + 1) c (ys ++ [y])) s₂ s') (fun _ _ => False) s'
        else EltEnd h₀ L m I D C Led oI oC ys k (fun c => P (i + 1) c ys) s₂ s') (fun _ _ => False) { s₂ with heap := h, toks := tk })
    (fin : ∀ (D C : Nat) c ys mC k h tk, I < D → D < C → P n c ys → h.Ns C mC → Place h₀ L I D C → Fr h₀ L h m → News h₀ L h ((D, listOf ys.toArray k) :: Led c) → (∀ q ∈ Led c, q.1 < D) → compPost (model prog w) A E use Q (.ref D) C (.ok .next) { s₂ with heap := h, toks := tk }) :
    wpAny (model prog w) A (newList []) (fun acc s₃ => wpAny (model prog w) A (newFunctionEnv scope env.globals cl [] env.qual none .none (some env)) (fun cenv s₄ =>
      codeAny (model prog w) A (.compStart (.ListComp elt [⟨.Name x px, iter, [t], 0⟩] scope pos) 0 (.ref I) acc { cenv with scope := relabel scope env }) (compPost (model prog w) A E use Q acc cenv.locals) s₄) E s₃) E s₂ := by
  refine lcGen Led P c₀ hS hcell hkind hx F N hadr hL hI hP (fun D C => compTurn_test1 elt (.Name x px) iter t scope pos (.ref I) (.ref D) (compEnvC scope cl C env)) ?_ fin
  intro D C i c v ys oI oC mC h tk hID hDC PL hoff hv hi hP' hm hd B _
  obtain ⟨k, N'⟩ := B.news PL
  exact contTest PL hoff ⟨hd, trivial⟩ (hlen _ _ _ hP') rfl (turn D C i c v ys oI oC mC k h tk hID hDC hv hi hP' hm hd B.fr N')

theorem compTurn_two0 (elt target iter target2 iter2 : Expr) (scope : Scope) (pos : Pos) (it acc : Value) (env : Env) :
    compTurn (.ListComp elt [⟨target, iter, [], 0⟩, ⟨target2, iter2, [], 0⟩] scope pos) 0 it acc env = (standAt iter.pos >>= fun _ => pyNext it >>= fun r => match r with
      | none => pure (.done .next)
      | some v => letOwnedTupleGo target it v >>= fun _ => assign target env v >>= fun _ =>
        eval iter2 env >>= fun x => standAt iter2.pos >>= fun _ => foldedSetIterable iter2 env x >>= fun x => holding [x] (pyIter x) >>= fun it2 =>
          runOwn (.compStart (.ListComp elt [⟨target, iter, [], 0⟩, ⟨target2, iter2, [], 0⟩] scope pos) 1 it2 acc env) env >>= fun _ =>
            again (.compLoop (.ListComp elt [⟨target, iter, [], 0⟩, ⟨target2, iter2, [], 0⟩] scope pos) 0 it acc env)) := by rfl
theorem compTurn_two1 (elt target iter target2 iter2 : Expr) (scope : Scope) (pos : Pos) (it acc : Value) (env : Env) :
    compTurn (.ListComp elt [⟨target, iter, [], 0⟩, ⟨target2, iter2, [], 0⟩] scope pos) 1 it acc env = (standAt iter2.pos >>= fun _ => pyNext it >>= fun r => match r with
      | none => pure (.done .next)
      | some v => letOwnedTupleGo target2 it v >>= fun _ => assign target2 env v >>= fun _ =>
        (eval elt env >>= fun y => call (.builtin "list.append") [acc, y] >>= fun _ => pure ()) >>= fun _ =>
          again (.compLoop (.ListComp elt [⟨target, iter, [], 0⟩, ⟨target2, iter2, [], 0⟩] scope pos) 1 it acc env)) := by rfl

theorem codeAny_compStart_two {elt target iter target2 iter2 : Expr} {scope : Scope} {pos : Pos} {it acc : Value} {env : Env}
    (h0 : codeAny (model prog w) A (.compLoop (.ListComp elt [⟨target, iter, [], 0⟩, ⟨target2, iter2, [], 0⟩] scope pos) 1 it acc env) R s)
    (h : wpAny (model prog w) A (pyIter it) (fun it' s' => codeAny (model prog w) A (.compLoop (.ListComp elt [⟨target, iter, [], 0⟩, ⟨target2, iter2, [], 0⟩] scope pos) 1 it' acc env) R s')
      (notedBy (model prog w) A env fun x s' => R (.error x) s') s) :
    codeAny (model prog w) A (.compStart (.ListComp elt [⟨target, iter, [], 0⟩, ⟨target2, iter2, [], 0⟩] scope pos) 1 it acc env) R s := by
  refine codeAny_of_tree ?_
  show wpAny _ _ ((compStart (.ListComp elt [⟨target, iter, [], 0⟩, ⟨target2, iter2, [], 0⟩] scope pos) 1 it acc env).onRaise (fun x => do noteFrame x env; standAt theWindowsPlace)) _ _ s
  refine wpAny_notedAt ?_
  unfold compStart
  show wpAny _ _ (ask >>= _) _ _ s
  refine wpAny_bind (wpAny_askSetting (wpAny_ite ?_))
  split
  · first
      | exact wpAny_bind (wpAny_pure (wpAny_pure (And.intro rfl h0)))
      | exact wpAny_pure (And.intro rfl h0)
  · first
      | exact wpAny_bind (wpAny_rule (wpAny_bind (wpAny_standAt (wpAny_bind (wpAny_mono h (fun it' s' h' => wpAny_pure (And.intro rfl h')) fun _ _ x => x)))))
      | (refine wpAny_bind (wpAny_rule ?_); show wpAny _ _ (standAt iter2.pos >>= _) _ _ s; exact wpAny_bind (wpAny_standAt (wpAny_bind (wpAny_mono h (fun it' s' h' => wpAny_pure (And.intro rfl h')) fun _ _ x => x))))

/-- the inner clause of two -/
theorem lcInner {τ : Type} {elt target iter iter2 : Expr} {y : Str} {py : Pos} {scope : Scope} {pos : Pos} {cenv : Env} {n : Nat} {Pv : Nat → Value → Prop}
    (Led : τ → List (Addr × Obj)) (G : (Str → Option Value) → Prop) (P : Nat → τ → List Value → Prop) (c₀ : τ) {h : Heap} {tk : Nat} (hS : Src prog w A h₀ Led I n Pv h) (hoff : ∀ c, Off I D C (Led c)) (PL : Place h₀ L I D C)
    (hy : cenv.kindOf y = some .local) (hk : cenv.scope.kind = .function) (hC : cenv.locals = C) (hG : ∀ mC v, G mC → G (fun z => if z = y then some v else mC z))
    (hlen : ∀ i c ys, P i c ys → ys.length ≤ sizeLine)
    {ys : List Value} {oI oC : Obj} {mC : Str → Option Value} (hP : P 0 c₀ ys) (hd : DNs oC mC ∧ G mC) (hB : Blk h₀ L m (Led c₀) I D C oI ys oC h)
    (turn : ∀ i c v ys oI oC mC k h tk, Pv i v → i < n → P i c ys → (mC y = some v ∧ G mC) → DNs oC mC → Fr h₀ L h m → News h₀ L h ((C, oC) :: (I, oI) :: (D, listOf ys.toArray k) :: Led c) →
      wpAny (model prog w) A (eval elt cenv) (fun z s' => EltEnd h₀ L m I D C Led oI oC ys k (fun c => P (i + 1) c (ys ++ [z])) s s') (fun _ _ => False) { s with heap := h, toks := tk })
    (done : ∀ c ys oC mC k h tk, P n c ys → (DNs oC mC ∧ G mC) → Fr h₀ L h m → News h₀ L h (Led c) → h.get? D = some (listOf ys.toArray k) → h.get? C = some oC → R (.ok .next) { s with heap := h, toks := tk }) :
    codeAny (model prog w) A (.compStart (.ListComp elt [⟨target, iter, [], 0⟩, ⟨.Name y py, iter2, [], 0⟩] scope pos) 1 (.ref I) (.ref D) cenv) R { s with heap := h, toks := tk } := by
  obtain ⟨fp, St, W, hStI, hfp, hst⟩ := hS
  have go : codeAny (model prog w) A (.compLoop (.ListComp elt [⟨target, iter, [], 0⟩, ⟨.Name y py, iter2, [], 0⟩] scope pos) 1 (.ref I) (.ref D) cenv) R { s with heap := h, toks := tk } := by
    refine compLoopG (s := s) Led G P W hStI hfp hoff PL (compTurn_two1 elt target iter (.Name y py) iter2 scope pos (.ref I) (.ref D) cenv) hy hk hC hG ?_ ?_ hst hP hd hB
    · intro i c v ys oI oC mC h tk hv hi hP' hm hd B
      obtain ⟨k, N'⟩ := B.news PL
      exact contPlain PL hoff ⟨hd, hm.2⟩ (hlen _ _ _ hP') (turn i c v ys oI oC mC k h tk hv hi hP' hm hd B.fr N')
    · intro c ys oC mC h tk hP' hd F' N' hacc hown
      obtain ⟨k, ha⟩ := hacc
      exact done c ys oC mC k h tk hP' hd F' N' ha hown
  exact codeAny_compStart_two go (W.self 0 _ _ _ hst go)

/-- two clauses -/
theorem lcTwo {σ : Type} {elt iter iter2 target2 : Expr} {x : Str} {px : Pos} {scope : Scope} {cl : List (Str × Addr)} {pos : Pos} {env : Env} {E : Value → Shared → Prop} {use : Option (Value → Sem Unit)} {Q : Value → Shared → Prop} {s₂ : Shared} {n : Nat} {Pv : Nat → Value → Prop}
    (Led : σ → List (Addr × Obj)) (P : Nat → σ → List Value → Prop) (c₀ : σ) (hS : Src prog w A h₀ Led I n Pv s₂.heap)
    (hcell : ∀ y ∈ scope.names, y.2 ≠ .cell) (hkind : scope.kind = .function) (hx : scope.names.lookup x = some .local)
    (F : Fr h₀ L s₂.heap m) (N : News h₀ L s₂.heap (Led c₀)) (hadr : ∀ c, ∀ q ∈ Led c, q.1 < I) (hL : L < I) (hI : I < s₂.heap.objs.size) (hP : P 0 c₀ [])
    (hs2 : ∀ C v, foldedSetIterable iter2 (compEnvC scope cl C env) v = pure v)
    (turn : ∀ (D C : Nat) i c v ys oI oC mC k h tk, I < D → D < C → Place h₀ L I D C → (∀ c, Off I D C (Led c)) → Pv i v → i < n → P i c ys → mC x = some v → DNs oC mC → Fr h₀ L h m → News h₀ L h ((C, oC) :: (I, oI) :: (D, listOf ys.toArray k) :: Led c) → C < h.objs.size →
      wpAny (model prog w) A (eval iter2 (compEnvC scope cl C env)) (fun xv s₁ => wpAny (model prog w) A (pyIter xv) (fun it2 s₃ =>
        codeAny (model prog w) A (.compStart (.ListComp elt [⟨.Name x px, iter, [], 0⟩, ⟨target2, iter2, [], 0⟩] scope pos) 1 it2 (.ref D) (compEnvC scope cl C env)) (fun r s' => r = .ok .next ∧ CEnd h₀ L m I D C Led (fun _ => True) (P (i + 1)) oI s₂ s') s₃)
        (fun _ _ => False) s₁) (fun _ _ => False) { s₂ with heap := h, toks := tk })
    (fin : ∀ (D C : Nat) c ys mC k h tk, I < D → D < C → P n c ys → h.Ns C mC → Place h₀ L I D C → Fr h₀ L h m → News h₀ L h ((D, listOf ys.toArray k) :: Led c) → (∀ q ∈ Led c, q.1 < D) → compPost (model prog w) A E use Q (.ref D) C (.ok .next) { s₂ with heap := h, toks := tk }) :
    wpAny (model prog w) A (newList []) (fun acc s₃ => wpAny (model prog w) A (newFunctionEnv scope env.globals cl [] env.qual none .none (some env)) (fun cenv s₄ =>
      codeAny (model prog w) A (.compStart (.ListComp elt [⟨.Name x px, iter, [], 0⟩, ⟨target2, iter2, [], 0⟩] scope pos) 0 (.ref I) acc { cenv with scope := relabel scope env }) (compPost (model prog w) A E use Q acc cenv.locals) s₄) E s₃) E s₂ := by
  refine lcGen Led P c₀ hS hcell hkind hx F N hadr hL hI hP (fun D C => compTurn_two0 elt (.Name x px) iter target2 iter2 scope pos (.ref I) (.ref D) (compEnvC scope cl C env)) ?_ fin
  intro D C i c v ys oI oC mC h tk hID hDC PL hoff hv hi hP' hm hd B hCs
  obtain ⟨k, N'⟩ := B.news PL
  refine wpAny_bind (wpAny_mono (turn D C i c v ys oI oC mC k h tk hID hDC PL hoff hv hi hP' hm hd B.fr N' hCs) (fun xv s₁ h₁ => ?_) fun _ _ f => f)
  refine wpAny_bind (wpAny_standAt (wpAny_bind (wpAny_of_eq (hs2 C xv) (wpAny_bind (wpAny_holding (wpAny_mono h₁ (fun it2 s₃ h₃ => ?_) fun _ _ f => f))))))
  refine wpAny_bind (wpAny_runOwn (codeAny_mono h₃ fun r s' hr => ?_))
  obtain ⟨rfl, hr⟩ := hr
  exact wpAny_pure ⟨rfl, hr⟩

/-- a list comprehension as an expression -/
theorem evalLC {elt target iter : Expr} {ifs : List Expr} {rest : List Comprehension} {scope : Scope} {pos : Pos} {env : Env} {cl : List (Str × Addr)} {E : Value → Shared → Prop} {Q : Value → Shared → Prop}
    (hclos : closureFor scope env = pure cl) (hkind : scope.kind = .function) (hnames : ∀ x ∈ scope.names, x.2 = .local → scope.names.lookup x.1 = some .local) (hs : ∀ x, foldedSetIterable iter env x = pure x)
    (h : wpAny (model prog w) A (eval iter env) (fun x s₁ => wpAny (model prog w) A (pyIter x) (fun it s₂ => wpAny (model prog w) A (newList []) (fun acc s₃ =>
      wpAny (model prog w) A (newFunctionEnv scope env.globals cl [] env.qual none .none (some env)) (fun cenv s₄ =>
        codeAny (model prog w) A (.compStart (.ListComp elt (⟨target, iter, ifs, 0⟩ :: rest) scope pos) 0 it acc { cenv with scope := relabel scope env }) (compPost (model prog w) A E none Q acc cenv.locals) s₄) E s₃) E s₂) E s₁) E s) :
    wpAny (model prog w) A (eval (.ListComp elt (⟨target, iter, ifs, 0⟩ :: rest) scope pos) env) Q E s := by
  rw [eval_ListComp]
  exact wpAny_comprehension_free (use := none) rfl hs hclos hkind hnames h
/-- a list comprehension stored at once -/
theorem assignLC {elt target iter : Expr} {ifs : List Expr} {rest : List Comprehension} {scope : Scope} {pos py spos : Pos} {y : Str} {env : Env} {cl : List (Str × Addr)} {E : Value → Shared → Prop} {Q : Flow → Shared → Prop}
    (hsw : swapsWith (.ListComp elt (⟨target, iter, ifs, 0⟩ :: rest) scope pos) (some (.Name y py)) spos.line env = pure true)
    (hclos : closureFor scope env = pure cl) (hkind : scope.kind = .function) (hnames : ∀ x ∈ scope.names, x.2 = .local → scope.names.lookup x.1 = some .local) (hs : ∀ x, foldedSetIterable iter env x = pure x)
    (h : wpAny (model prog w) A (eval iter env) (fun x s₁ => wpAny (model prog w) A (pyIter x) (fun it s₂ => wpAny (model prog w) A (newList []) (fun acc s₃ =>
      wpAny (model prog w) A (newFunctionEnv scope env.globals cl [] env.qual none .none (some env)) (fun cenv s₄ =>
        codeAny (model prog w) A (.compStart (.ListComp elt (⟨target, iter, ifs, 0⟩ :: rest) scope pos) 0 it acc { cenv with scope := relabel scope env }) (compPost (model prog w) A E (some (assign (.Name y py) env)) (fun _ s' => Q .next s') acc cenv.locals) s₄) E s₃) E s₂) E s₁) E s) :
    wpAny (model prog w) A (exec (.Assign [.Name y py] (.ListComp elt (⟨target, iter, ifs, 0⟩ :: rest) scope pos) spos) env) Q E s := by
  rw [exec_Assign_Name_used _ _ _ _ hsw]
  refine wpAny_bind (wpAny_standAt (wpAny_bind ?_))
  show wpAny _ A (do let _ ← comprehension (.ListComp elt (⟨target, iter, ifs, 0⟩ :: rest) scope pos) scope env _ (newList []) false (eval iter env) (some (assign (.Name y py) env))) _ _ s
  exact wpAny_bind (wpAny_mono (wpAny_comprehension_free (use := some (assign (.Name y py) env)) (Q := fun _ s' => Q .next s') rfl hs hclos hkind hnames h) (fun _ s' hq => wpAny_pure (wpAny_pure hq)) fun _ _ e => e)

/-! names within a block -/
theorem nmBlk {M : Model} {scope : Scope} {cl : List (Str × Addr)} {env : Env} {news : List (Addr × Obj)} {oC : Obj} {mC : Str → Option Value} {n : Str} {pos : Pos} {v : Value} {E : Value → Shared → Prop} {Q : Value → Shared → Prop}
    (N : News h₀ L s.heap news) (hm : (C, oC) ∈ news) (hd : DNs oC mC) (hv : mC n = some v) (h : Q v s) (hk : scope.kind = .function) (hx : scope.names.lookup n = some .local) (hb : (n == ("__debug__" : Str)) = false := by decide) :
    wpAny M A (eval (.Name n pos) (compEnvC scope cl C env)) Q E s :=
  wpAny_Name (wpAny_loadName_local (by simp [compEnvC, relabel, hk]) (lookup_relabel_local hx) (hd.ns (N _ hm).1) hv h) hb
theorem nmCellB {M : Model} {scope : Scope} {cl : List (Str × Addr)} {env : Env} {news : List (Addr × Obj)} {o : Obj} {c : Addr} {n : Str} {pos : Pos} {v : Value} {E : Value → Shared → Prop} {Q : Value → Shared → Prop}
    (N : News h₀ L s.heap news) (hc : cl.lookup n = some c) (hm : (c, o) ∈ news) (hd : o.data = .cell (some v)) (h : Q v s) (hk : scope.kind = .function) (hx : (compEnvC scope cl C env).kindOf n = some .cell) (hb : (n == ("__debug__" : Str)) = false := by decide) :
    wpAny M A (eval (.Name n pos) (compEnvC scope cl C env)) Q E s :=
  wpAny_Name (wpAny_loadName_cell (by simp [compEnvC, relabel, hk]) hx hc ⟨o, (N _ hm).1, hd⟩ h) hb
end

section
variable {prog : Program} {w : World} {A : Around} {E : Value → Shared → Prop} {s : Shared} {env : Env} {h₀ : Heap} {x : Str} {body : List Stmt} {Q : Flow → Shared → Prop} {I : Nat}
/-- what a turn of a for hands on: the ledger may have grown -/
def FEnd {σ : Type} (h₀ : Heap) (L : Addr) (I : Addr) (oI : Obj) (Led : σ → List (Addr × Obj)) (mu : σ → Str → Option Value) (kept : List Str) (P : σ → Prop) (s s' : Shared) : Prop :=
  ∃ c' h' tk' m', s' = { s with heap := h', toks := tk' } ∧ P c' ∧ (∀ q ∈ Led c', q.1 ≠ I) ∧ (∀ z ∈ kept, m' z = mu c' z) ∧ Fr h₀ L h' m' ∧ News h₀ L h' ((I, oI) :: Led c')
def FPost {σ : Type} (h₀ : Heap) (L : Addr) (I : Addr) (oI : Obj) (Led : σ → List (Addr × Obj)) (mu : σ → Str → Option Value) (kept : List Str) (P : σ → Prop) (s : Shared) (Q : Flow → Shared → Prop) (f : Flow) (s' : Shared) : Prop :=
  match f with
  | .ret v => Q (.ret v) s'
  | .brk => Q .next s'
  | _ => FEnd h₀ L I oI Led mu kept P s s'
theorem forSrc {σ : Type} {n : Nat} {Pv : Nat → Value → Prop} {m₀ : Str → Option Value} (Led : σ → List (Addr × Obj)) (mu : σ → Str → Option Value) (kept : List Str) (P : Nat → σ → Prop) (c₀ : σ)
    (hS : Src prog w A h₀ Led I n Pv s.heap) (F : Fr h₀ env.locals s.heap m₀) (N : News h₀ env.locals s.heap (Led c₀)) (hI : env.locals < I)
    (hoff : ∀ q ∈ Led c₀, q.1 ≠ I) (hm : ∀ z ∈ kept, m₀ z = mu c₀ z) (hp : P 0 c₀)
    (turn : ∀ (c : σ) (i : Nat) (v : Value) (u : Str → Option Value) (h : Heap) (tk : Nat) (oI : Obj), Pv i v → i < n → P i c → (∀ q ∈ Led c, q.1 ≠ I) →
      Fr h₀ env.locals h (fun y => if y = x then some v else if kept.contains y = true then mu c y else u y) → News h₀ env.locals h ((I, oI) :: Led c) →
      wpAny (model prog w) A (execs body env) (FPost h₀ env.locals I oI Led mu kept (P (i + 1)) s Q) E { s with heap := h, toks := tk })
    (done : ∀ (c : σ) (u : Str → Option Value) (h : Heap) (tk : Nat), P n c → Fr h₀ env.locals h (fun y => if kept.contains y = true then mu c y else u y) → News h₀ env.locals h (Led c) → Q .next { s with heap := h, toks := tk }) :
    LoopAtV prog w A h₀ env x body Q E (.ref I) s := by
  obtain ⟨fp, St, W, hStI, hfp, hst⟩ := hS
  have hIL : I ≠ env.locals := Nat.ne_of_gt hI
  have hL0 : h₀.get? env.locals = none := Heap.get?_none_of_le F.above
  have hI0 : h₀.get? I = none := Heap.get?_none_of_le (Nat.le_trans F.above (Nat.le_of_lt hI))
  have hfpL : ∀ o, (env.locals, o) ∉ Led c₀ := fun o q => (N _ q).2.1 rfl
  refine ⟨I, fp, [I], n, Pv, St, m₀, Led c₀, fun i m nx => LpJ Led mu kept (P i) m nx ∧ ∀ q ∈ nx, q.1 ≠ I, rfl, W, ?_, ?_, ?_, hst, F, N, ⟨⟨c₀, rfl, hp, hm⟩, hoff⟩, ?_, ?_⟩
  · intro q
    rcases hfp _ q with e | ⟨o, ho⟩ | ⟨o, ho⟩
    · exact hIL e.symm
    · exact hfpL o (ho c₀)
    · rw [hL0] at ho; cases ho
  · intro b hb; rw [List.mem_singleton.mp hb]; exact hI0
  · intro p hp q; exact hoff p hp (List.mem_singleton.mp q)
  · rintro i v m₁ news₁ s₁ own ⟨h1, tk1, rfl⟩ hi hP ⟨⟨c, rfl, hPc, hmc⟩, hoffc⟩ _ hown hget hall hst1 F₁ N₁
    obtain ⟨oI, hoI⟩ := hStI _ _ hst1
    have hIfp : I ∈ fp := W.sub I (List.mem_singleton.mpr rfl)
    have hIown : (I, oI) ∈ own := hall I hIfp hI0 oI hoI
    have N₂ : News h₀ env.locals h1 ((I, oI) :: Led c) := fun p hp => N₁ p (by
      rcases List.mem_cons.mp hp with rfl | q
      · exact List.mem_append_left _ hIown
      · exact List.mem_append_right _ q)
    refine wpAny_mono (turn c i v m₁ h1 tk1 oI hP hi hPc hoffc (lpFr hmc F₁) N₂) (fun f s₂ p => ?_) fun _ _ e => e
    have fin : FEnd h₀ env.locals I oI Led mu kept (P (i + 1)) s s₂ → LoopStepU h₀ env.locals [I] own (fun m nx => LpJ Led mu kept (P (i + 1)) m nx ∧ ∀ q ∈ nx, q.1 ≠ I) { s with heap := h1, toks := tk1 } .next s₂ := by
      rintro ⟨c', h', tk', m', rfl, hP', hoff', hmu', F', N'⟩
      refine ⟨rfl, h', tk', m', Led c', rfl, F', fun p hp => ?_, fun p hp q => hoff' p hp (List.mem_singleton.mp q), ⟨c', rfl, hP', hmu'⟩, hoff'⟩
      rcases List.mem_append.mp hp with q | q
      · have e3 : h1.get? p.1 = some p.2 := hget p q
        rcases hfp _ (hown p q) with e1 | ⟨o, ho⟩ | ⟨o, ho⟩
        · rw [e1, hoI] at e3
          have e4 : p = (I, oI) := Prod.ext e1 (Option.some.inj e3).symm
          rw [e4]; exact N' _ (.head _)
        · have e5 := (N₁ _ (List.mem_append_right _ (ho c))).1
          rw [e5] at e3
          have e4 : p = (p.1, o) := Prod.ext rfl (Option.some.inj e3).symm
          rw [e4]; exact N' _ (.tail _ (ho c'))
        · have := (N₁ p (List.mem_append_left _ q)).2.2
          rw [ho] at this; cases this
      · exact N' p (.tail _ q)
    cases f with
    | ret v => exact .ret p
    | brk => exact .brk p
    | next => exact .next (fin p)
    | cont => exact .cont (fin p)
  · rintro h' tk m' news' F' N' _ ⟨⟨c, rfl, hPc, hmc⟩, _⟩
    exact done c m' h' tk hPc (lpFrOut hmc F') N'
end
end
section
theorem join_rep {prog : Program} {w : World} {A : Around} {E : Value → Shared → Prop} {s : Shared} {Q : Value → Shared → Prop} {l : List (Str × Tok)} {x : List Nat} {c : Nat} {t : Tok} {D : Addr} (hsp : l.map (·.1) = Txt.split (S x) (S [c]))
    (hl : s.heap.IsList D (strValues l).toArray) (hx : (S x).length < 1000) (h : ∀ t k, (S (rep1 c x)).length ≤ 4 * (S x).length → Q (.str (S (rep1 c x)) t) { s with toks := k }) :
    wpAny (model prog w) A (call (.builtin "str.join") [.str (S [c] ++ Str.ofString "...") t, .ref D]) Q E s := by
  have hw := weighs_of_split hsp (Nat.le_refl 1)
  unfold Weighs at hw
  have h1 : (S x).length = x.length := by simp [Str.length]
  have h2 : (S [c] ++ Str.ofString "...").length = 4 := by rw [sdots]; rfl
  have hi : StrsAre (strValues l).toArray.toList (l.map (·.1)) := by
    show StrsAre (strValues l) _
    unfold strValues
    clear hsp hl hw
    induction l with
    | nil => exact .nil
    | cons p r ih => exact .cons _ _ ih
  refine join_listC hl hi (by omega) (by omega) fun t' k => ?_
  rw [hsp, rep_split]
  exact h t' k (by have := rep1_len c x; simpa [Str.length] using this)
theorem cut2 {prog : Program} {w : World} {A : Around} {E : Value → Shared → Prop} {s : Shared} {h₀ : Heap} {L : Addr} {m : Str → Option Value} {news : List (Addr × Obj)} {value slice : Expr} {t : Addr} {its : Array Value} {n : Nat} {u : Tok} {zs : List Value} {Q : Value → Shared → Prop}
    (F : Fr h₀ L s.heap m) (N : News h₀ L s.heap news) (hm : (t, ({ cls := .type "tuple", data := .seq its n } : Obj)) ∈ news) (e : its.toList.drop 2 = zs) (h2 : 2 ≤ its.size) (h3 : its.size ≤ 100)
    (h : ∀ D h', Fr h₀ L h' m → News h₀ L h' ((D, ({ cls := .type "tuple", data := .seq zs.toArray } : Obj)) :: news) → (∀ p ∈ news, p.1 < D) → Q (.ref D) { s with heap := h' })
    (hs : subscripted slice false (.ref t) (.ref s.heap.objs.size) = operate [.ref s.heap.objs.size, .ref t] (getItem (.ref t) (.ref s.heap.objs.size)))
    (hg : ∀ r, letTemporaryGo value (.ref t) r = pure ()) :
    wpAny (model prog w) A (subscriptTail value slice (.ref t) (.ref s.heap.objs.size)) Q E { s with heap := s.heap.push { cls := .type "slice", data := .fields #[.int 2 u, .none, .none] } } := by
  subst e
  exact slice_tuple_from (a := 2) F N ⟨_, (N _ hm).1, rfl, n, rfl⟩ (by decide) h2 (fun h' F' N' => h _ h' F' N' fun p hp => Nat.lt_succ_of_lt (Heap.lt_size (N p hp).1)) hs hg (by rw [sizeLine_eq]; omega)
section
local macro_rules | `(tactic| walk_at "subscriptTail Name Slice ref ref") => `(tactic| (with_unfolding_all (refine' cut2 ?F ?N ?m ?e ?a ?b ?_ ?s ?g; (case F => k_asm); (case N => k_asm); (case m => k_mem); (case e => exact rfl); (case a => exact Nat.le_of_ble_eq_true rfl); (case b => exact Nat.le_of_ble_eq_true rfl); (case s => rfl); (case g => (intro _; rfl))); intro D9 h9 F9 N9 l9; (try k_lt l9)))
local macro_rules | `(tactic| walk_at "call builtin:str.join") => `(tactic| ((rename (List.map _ _ = Txt.split _ _) => hsp9); (refine join_rep hsp9 (by first | assumption | is_list) (by omega) ?_); clear hsp9; intro _ _ _))
theorem rep_ok (w : World) (x : List Nat) (a b c : Nat) (t0 q1 q2 q3 q4 q5 q6 : Tok) (hw : x.length < 20) :
    Ctr w 2 70 [.str (S x) t0, .str (S [a]) q1, .str (S [a] ++ Str.ofString "...") q2, .str (S [b]) q3, .str (S [b] ++ Str.ofString "...") q4, .str (S [c]) q5, .str (S [c] ++ Str.ofString "...") q6]
      (fun v => ∃ t, v = .str (S (rep1 c (rep1 b (rep1 a x)))) t) := by
  unfold Ctr
  k_fill
  intro p loose mean mg mb news dp un gd cn cs ad ccd cl outer A₀ base h₀ L m s Q E X B F N T hk hdp hun hret
  w_on
  refine wpAny_call ?_
  k_dflt (refine' kp_rest (vs := [.str (S [a]) q1, .str (S [a] ++ Str.ofString "...") q2, .str (S [b]) q3, .str (S [b] ++ Str.ofString "...") q4, .str (S [c]) q5, .str (S [c] ++ Str.ofString "...") q6]) (binds := fun D => [(Str.ofString "text", .str (S x) t0), (Str.ofString "pairs", .ref D)]) ?k1 ?k2 ?k3 ?k4 ?k5 ?kA ?kF ?kK ?k6 ?k7 ?k8 ?kV ?kP ?kG ?kB ?_ ?c2 ?c3 ?c4 ?c5; (case kA => exact rfl); (case kF => exact rfl); (case kK => assumption); (case k1 => k_asm); (case k2 => k_asm); (case k3 => k_asm); (case k4 => k_asm); (case k5 => k_asm); (case k6 => k_is); (case k7 => k_is); (case k8 => (show dp < recursionLimit; omega)); (case kV => exact rfl); (case kP => exact rfl); (case kG => exact fun _ => rfl); (case kB => exact fun _ => locs rfl); (case c5 => decide); (case c2 => exact rfl); (case c3 => exact rfl); (case c4 => exact rfl); k_whole; intro D' g' L' h' l1 FG' F' N' B' X' T'; (try k_lt l1); (try dsimp only); (try k_lift B'); (try k_fold))
  have hx0 : (S x).length = x.length := by simp [Str.length]
  repeat' ((fail_if_success (with_reducible show wpAny _ _ (exec (Stmt.While _ _ _ _) _) _ _ _)); (first | (k_unfold; (try dsimp only)) | (k_end; wrow_close) | walk1 | (dsimp only; walk1) | (leave1; walk_say "STEP leave1"; try dsimp only) | fail "no step"))
  refine whl_start 5 (whl_turn (by passes_own) ?_)
  repeat' ((first | (k_unfold; (try dsimp only)) | (k_end; wrow_close) | walk1 | (dsimp only; walk1) | (leave1; walk_say "STEP leave1"; try dsimp only) | fail "no step"))
  rename Fr h₀ L _ _ => kF
  rename News h₀ L _ _ => kN
  refine hret _ _ _ ⟨_, rfl⟩ kF (fun p hp => kN p ?_)
  repeat (first | exact hp | refine List.Mem.tail _ ?_)
end
end
local macro_rules | `(tactic| walk_at "eval Name") => `(tactic| ((with_reducible show wpAny _ _ (eval (Expr.Name _ _) (compEnvC _ _ _ _)) _ _ _); (first
  | (refine nmBlk (by assumption) (List.Mem.head _) (by assumption) (by assumption) ?_ (by rfl) (by rfl))
  | (refine nmCellB (by assumption) (by rfl) (by k_mem) (by assumption) ?_ (by rfl) (by rfl)))))
section
section
theorem newsPush {h₀ h : Heap} {L : Addr} {news : List (Addr × Obj)} (N : News h₀ L h news) (o : Obj) : News h₀ L (h.push o) news := fun p hp => ⟨Heap.get?_push_of_some _ (N p hp).1, (N p hp).2⟩
theorem strs6 {vs : List Value} {a b c d e f : Str} (h : StrsAre vs [a, b, c, d, e, f]) : ∃ t1 t2 t3 t4 t5 t6, vs = [.str a t1, .str b t2, .str c t3, .str d t4, .str e t5, .str f t6] := by
  obtain ⟨q1, _, rfl, h1⟩ := h.cons_inv
  obtain ⟨q2, _, rfl, h2⟩ := h1.cons_inv
  obtain ⟨q3, _, rfl, h3⟩ := h2.cons_inv
  obtain ⟨q4, _, rfl, h4⟩ := h3.cons_inv
  obtain ⟨q5, _, rfl, h5⟩ := h4.cons_inv
  obtain ⟨q6, _, rfl, h6⟩ := h5.cons_inv
  obtain rfl := h6.nil_inv
  exact ⟨_, _, _, _, _, _, rfl⟩
theorem dot_len (ls : List Nat) (i : Nat) : ((ls.take i).flatMap fun c => [S [c], S [c] ++ Str.ofString "..."]).length ≤ 2 * ls.length := by
  rw [List.length_flatMap]
  have : ∀ l : List Nat, (l.map fun c => [S [c], S [c] ++ Str.ofString "..."].length).sum = 2 * l.length := by
    intro l; induction l with
    | nil => rfl
    | cons a l ih => rw [List.map_cons, List.sum_cons, ih]; simp; omega
  rw [this, List.length_take]
  omega
theorem dot_succ {ls : List Nat} {i c : Nat} (hc : (S ls).cps[i]? = some c) : ((ls.take (i + 1)).flatMap fun c => [S [c], S [c] ++ Str.ofString "..."]) = ((ls.take i).flatMap fun c => [S [c], S [c] ++ Str.ofString "..."]) ++ [S [c], S [c] ++ Str.ofString "..."] := by
  have h : ls[i]? = some c := by simpa using hc
  rw [List.take_add_one, h, List.flatMap_append]
  rfl
theorem dot_step {pre : List Str} {x y : Str} {tx ty : Tok} {zs : List Value} {j : Nat} {v : Value} (h : StrsAre zs (pre ++ [x, y].take j)) (hv : [Value.str x tx, Value.str y ty][j]? = some v) : StrsAre (zs ++ [v]) (pre ++ [x, y].take (j + 1)) := by
  match j, hv with
  | 0, hv =>
    have : v = .str x tx := by simpa using hv.symm
    subst this
    simpa using h.append' (.cons x tx .nil)
  | 1, hv =>
    have : v = .str y ty := by simpa using hv.symm
    subst this
    have := h.append' (StrsAre.cons y ty .nil)
    simpa using this
  | j + 2, hv => simp at hv
theorem dots_ok (w : World) (x : List Nat) (a b c : Nat) (t1 t2 : Tok) (hw : x.length < 20) :
    Ctr w 4 94 [.str (S x) t1, .str (S [a, b, c]) t2] (fun v => ∃ t, v = .str (Str.ofString "..." ++ S (rep1 c (rep1 b (rep1 a x)))) t) := by
  obtain ⟨ls, hls⟩ : ∃ ls, ls = [a, b, c] := ⟨_, rfl⟩
  rw [← hls]
  unfold Ctr
  k_fill
  intro p loose mean mg mb news dp un gd cn cs ad ccd cl outer A₀ base h₀ L m s Q E X B F N T hk hdp hun hret
  w_on
  refine wpAny_call ?_
  k_dflt (refine' code_def ?k1 ?k2 ?k3 ?k4 ?k5 ?kA ?kF ?kK ?k6 ?k7 ?k8 ?k9 ?kB ?_ ?c2 ?c3 ?c4 ?c5; (case kA => exact rfl); (case kF => exact rfl); (case kK => assumption); (case k1 => k_asm); (case k2 => k_asm); (case k3 => k_asm); (case k4 => k_asm); (case k5 => k_asm); (case k6 => k_is); (case k7 => k_is); (case k8 => (show dp < recursionLimit; omega)); (case k9 => exact BindsTo.of_eq (binds := [(Str.ofString "word", Value.str (S x) t1), (Str.ofString "letters", Value.str (S ls) t2)]) rfl); (case c5 => decide); (case kB => exact locs rfl); (case c2 => exact rfl); (case c3 => exact rfl); (case c4 => exact rfl); k_whole; intro g' L' h' FG' F' N' B' X' T'; (try dsimp only); (try k_lift B'); (try k_fold))
  repeat' ((fail_if_success (with_reducible show wpAny _ _ (exec (Stmt.Assign _ (Expr.ListComp _ _ _ _) _) _) _ _ _)); (first | (k_unfold; (try dsimp only)) | (k_end; wrow_close) | walk1 | (dsimp only; walk1) | (leave1; walk_say "STEP leave1"; try dsimp only) | fail "no step"))
  refine assignLC (by rfl) (by rfl) (by rfl) (by decide) (fun _ => rfl) ?_
  walk1
  refine src_str (Led := fun (_ : Unit) => news) (h₀ := g') (by rfl) fun o hS => ?_
  have hLs : L' < h'.objs.size := F'.ns.lt
  have hnew : ∀ q ∈ news, q.1 < h'.objs.size := fun q hq => Heap.lt_size (N' q hq).1
  refine lcTwo (Led := fun (_ : Unit) => news) (P := fun i _ ys => StrsAre ys ((ls.take i).flatMap fun c => [S [c], S [c] ++ Str.ofString "..."])) () hS (by decide) rfl rfl (F'.push _) (newsPush N' _) (fun _ q hq => Heap.lt_size (N' q hq).1) F'.ns.lt (by rw [Heap.size_push]; exact Nat.lt_succ_self _) ?hp (fun _ _ => rfl) ?turn ?fin
  (case hp => exact StrsAre.nil)
  (case turn =>
    intro D C i _ v ys oI oC mC k h tk hID hDC PL hoff hv hi hP hm hd F9 N9 hCs
    clear F' N' F N
    obtain ⟨c, u, hc, rfl⟩ := hv
    repeat' ((fail_if_success (with_reducible show wpAny _ _ (pyIter _) _ _ _)); (first | (k_unfold; (try dsimp only)) | (k_end; wrow_close) | walk1 | (dsimp only; walk1) | (leave1; walk_say "STEP leave1"; try dsimp only) | fail "no step"))
    rename_i t' k9 hl9 l' h8 F8 N8 l1
    have hI8 : h'.objs.size < h8.objs.size := Heap.lt_size (N8 _ (.tail _ (.tail _ (.head _)))).1
    have hl8 : l' < h8.objs.size := Heap.lt_size (N8 _ (.head _)).1
    have hC8 : C < h8.objs.size := Heap.lt_size (N8 _ (.tail _ (.head _))).1
    have hnl : ∀ q ∈ news, q.1 < h'.objs.size := fun q hq => hnew q hq
    refine src_list (s := { s with heap := h8, toks := k9 }) (vs := [.str ⟨#[c]⟩ u, .str (⟨#[c]⟩ ++ Str.ofString "...") t']) (Led := fun (_ : Unit) => (l', listOf #[.str ⟨#[c]⟩ u, .str (⟨#[c]⟩ ++ Str.ofString "...") t'] 0) :: (h'.objs.size, oI) :: news) (h₀ := g') (by rfl) ⟨_, (N8 _ (.head _)).1, rfl, 0, rfl⟩ (.inl ⟨_, fun _ => .head _⟩) fun o2 hS2 => ?_
    obtain ⟨o3, ho3⟩ := src_it hS2
    have hB2 : Blk g' L' (fun y => [(Str.ofString "word", Value.str (S x) t1), (Str.ofString "letters", Value.str (S ls) t2)].reverse.lookup y) ((l', listOf #[.str ⟨#[c]⟩ u, .str (⟨#[c]⟩ ++ Str.ofString "...") t'] 0) :: (h'.objs.size, oI) :: news) h8.objs.size D C o3 ys oC (h8.push o2) := by
      refine ⟨F8.push _, newsPush (fun q hq => N8 q ?_) _, ho3, ⟨k, Heap.get?_push_of_some _ (N8 _ (.tail _ (.tail _ (.tail _ (.head _))))).1⟩, Heap.get?_push_of_some _ (N8 _ (.tail _ (.head _))).1⟩
      rcases List.mem_cons.mp hq with rfl | hq
      · exact .head _
      rcases List.mem_cons.mp hq with rfl | hq
      · exact .tail _ (.tail _ (.head _))
      · exact .tail _ (.tail _ (.tail _ (.tail _ hq)))
    have hID' : h'.objs.size < D := hID
    have hI2 : ∀ b, h'.objs.size ≤ b → g'.get? b = none := fun b hb => Heap.get?_none_of_le (Nat.le_trans F8.above (Nat.le_trans (Nat.le_of_lt hLs) hb))
    refine lcInner (s := s) (h₀ := g') (L := L') (oI := o3) (oC := oC) (mC := mC) (ys := ys) (Led := fun (_ : Unit) => (l', listOf #[.str ⟨#[c]⟩ u, .str (⟨#[c]⟩ ++ Str.ofString "...") t'] 0) :: (h'.objs.size, oI) :: news) (G := fun _ => True)
      (P := fun j _ zs => StrsAre zs (((ls.take i).flatMap fun c => [S [c], S [c] ++ Str.ofString "..."]) ++ [S [c], S [c] ++ Str.ofString "..."].take j)) () hS2 ?hoff2 ?PL2 rfl rfl rfl (fun _ _ _ => trivial) ?hlen (by simpa using hP) ⟨hd, trivial⟩ hB2 ?turn2 ?done2
    (case hoff2 =>
      intro _ q hq
      rcases List.mem_cons.mp hq with rfl | hq
      · exact ⟨Nat.ne_of_lt hl8, Nat.ne_of_gt l1.2.2.1, Nat.ne_of_gt l1.1⟩
      rcases List.mem_cons.mp hq with rfl | hq
      · exact ⟨Nat.ne_of_lt hI8, Nat.ne_of_lt hID', Nat.ne_of_lt (Nat.lt_trans hID' hDC)⟩
      · exact ⟨Nat.ne_of_lt (Nat.lt_trans (hnew q hq) hI8), Nat.ne_of_lt (Nat.lt_trans (hnew q hq) hID'), Nat.ne_of_lt (Nat.lt_trans (hnew q hq) (Nat.lt_trans hID' hDC))⟩)
    (case PL2 => exact ⟨Nat.ne_of_gt (Nat.lt_trans hLs hI8), PL.DL, PL.CL, hI2 _ (Nat.le_of_lt hI8), PL.D0, PL.C0, Nat.ne_of_gt (Nat.lt_trans hDC hC8), PL.DC, Nat.ne_of_gt hC8⟩)
    (case hlen =>
      intro j _ zs hz
      have h1 := hz.length
      rw [h1, sizeLine_eq, List.length_append]
      have h2 := dot_len ls i
      have h4 : ls.length = 3 := by rw [hls]; rfl
      have h3 : ([S [c], S [c] ++ Str.ofString "..."].take j).length ≤ 2 := by rw [List.length_take]; exact Nat.min_le_right ..
      omega)
    (case turn2 =>
      intro j _ v zs oI2 oC mC k h tk hv hj hP hm hd F7 N7
      obtain ⟨hm, _⟩ := hm
      walk1
      refine ⟨(), h, tk, rfl, ?_, F7, N7⟩
      exact dot_step hP hv)
    (case done2 =>
      intro _ zs oC mC k h tk hP hd F7 N7 hD hC
      refine ⟨rfl, (), zs, oC, mC, h, tk, rfl, ?_, ⟨hd.1, trivial⟩, ⟨F7, fun q hq => N7 q (.tail _ (.tail _ hq)), (N7 _ (.tail _ (.head _))).1, ⟨k, hD⟩, hC⟩⟩
      rw [dot_succ hc]
      exact hP))
  (case fin =>
    intro D C _ ys mC k h tk hID hDC hP hn PL F9 N9 hl
    refine finAssign PL hn F9 N9 hl hDC rfl rfl rfl fun h7 F7 N7 => ?_
    clear F' N' F N F9 N9
    subst hls
    obtain ⟨q1, q2, q3, q4, q5, q6, rfl⟩ := strs6 (show StrsAre ys [S [a], S [a] ++ Str.ofString "...", S [b], S [b] ++ Str.ofString "...", S [c], S [c] ++ Str.ofString "..."] from hP)
    clear hP
    repeat' ((fail_if_success (with_reducible show wpAny _ _ (call (Value.ref _) _ _) _ _ _)); (first | (k_unfold; (try dsimp only)) | (k_end; wrow_close) | walk1 | (dsimp only; walk1) | (leave1; walk_say "STEP leave1"; try dsimp only) | fail "no step"))
    rename Fr _ _ _ _ => F6
    rename News _ _ _ _ => N6
    k_dflt (refine' ctr_use (rep_ok w x a b c t1 q1 q2 q3 q4 q5 q6 hw) X' B' F6 N6 T' rfl ?dp ?un ?_)
    (case dp => show dp + 1 + 2 < recursionLimit; omega)
    (case un => show un + 3 + 8 * 2 < cLine; omega)
    rintro _ h5 tk5 ⟨t5, rfl⟩ F5 N5
    clear F6 N6
    have hl3 : (S (rep1 c (rep1 b (rep1 a x)))).length ≤ 1280 := by
      have h1 := rep1_len a x
      have h2 := rep1_len b (rep1 a x)
      have h3 := rep1_len c (rep1 b (rep1 a x))
      simp only [Str.length, List.size_toArray]
      omega
    repeat' ((first | (k_unfold; (try dsimp only)) | (k_end; wrow_close) | walk1 | (dsimp only; walk1) | (leave1; walk_say "STEP leave1"; try dsimp only) | fail "no step"))
    rename Fr h₀ L _ _ => kF
    rename News h₀ L _ _ => kN
    refine hret _ _ _ ⟨_, rfl⟩ kF (fun p hp => kN p ?_)
    repeat (first | exact hp | refine List.Mem.tail _ ?_))
end
end
section
/-- a contract whose call may turn the ledger -/
def CtrN (w : World) (k : Nat) (f : Addr) (vs : List Value) (news : List (Addr × Obj)) (R : Value → List (Addr × Obj) → Prop) : Prop :=
  ∀ (p : Program) (loose : List Str) (mean : ExcName → Option Value) (mg mb : Str → Option Value)
    (dp un : Nat) (gd : Option (List Code)) (cn : Str) (cs : Scope) (a : Addr) (ccd : Value) (cl : List (Str × Addr)) (outer : List Env) (A₀ : Around) (base h₀ : Heap) (L : Addr) (m : Str → Option Value) (s : Shared) (Q E : Value → Shared → Prop),
    (hd.heap_39 w.params).In h₀ → Below A₀ base outer h₀ → Fr h₀ L s.heap m → News h₀ L s.heap news → Top p loose mean mg mb h₀ → (CodeHd h₀ 83 79 ∧ CodeHd h₀ 98 96) → cs.kind = .function → dp + k < recursionLimit → un + 8 * k < cLine →
    (∀ (v : Value) (news' : List (Addr × Obj)) (h' : Heap) (tk' : Nat), R v news' → Fr h₀ L h' m → News h₀ L h' news' → Q v { s with heap := h', toks := tk' }) →
    wpAny (model Challenge.rw_pe0106_01.row.prog w) (ktrTop dp un gd cn cs L a ccd cl outer) (call (.ref f) vs) Q E s
theorem ctrN_use {w : World} {k : Nat} {f : Addr} {vs : List Value} {news : List (Addr × Obj)} {R : Value → List (Addr × Obj) → Prop} (C : CtrN w k f vs news R) {p : Program} {loose : List Str} {mean : ExcName → Option Value} {mg mb : Str → Option Value}
    {dp un : Nat} {gd : Option (List Code)} {cn : Str} {cs : Scope} {a : Addr} {ccd : Value} {cl : List (Str × Addr)} {outer : List Env} {A₀ : Around} {base h₀ : Heap} {L : Addr} {m : Str → Option Value} {s : Shared} {Q E : Value → Shared → Prop}
    (X : (hd.heap_39 w.params).In h₀) (B : Below A₀ base outer h₀) (F : Fr h₀ L s.heap m) (N : News h₀ L s.heap news) (T : Top p loose mean mg mb h₀) (CH : CodeHd h₀ 83 79 ∧ CodeHd h₀ 98 96) (hk : cs.kind = .function) (hdp : dp + k < recursionLimit) (hun : un + 8 * k < cLine)
    (h : ∀ (v : Value) (news' : List (Addr × Obj)) (h' : Heap) (tk' : Nat), R v news' → Fr h₀ L h' m → News h₀ L h' news' → Q v { s with heap := h', toks := tk' }) :
    wpAny (model Challenge.rw_pe0106_01.row.prog w) (ktrTop dp un gd cn cs L a ccd cl outer) (call (.ref f) vs) Q E s := C p loose mean mg mb dp un gd cn cs a ccd cl outer A₀ base h₀ L m s Q E X B F N T CH hk hdp hun h
/-- a _netrclex: its four attributes -/
def lexDict (P : Params) (q1 q2 q3 q4 : Tok) (vn vi vw vp : Value) : List DictEntry :=
  [⟨PyData.keyHash P "lineno", .str "lineno" q1, vn⟩, ⟨PyData.keyHash P "instream", .str "instream" q2, vi⟩, ⟨PyData.keyHash P "whitespace", .str "whitespace" q3, vw⟩, ⟨PyData.keyHash P "pushback", .str "pushback" q4, vp⟩]
theorem push_ok (w : World) (lx dx pb : Addr) (q1 q2 q3 q4 : Tok) (vn vi vw v : Value) (ne np : Nat) (its : List Value) (news : List (Addr × Obj)) (h2 : lx ≠ pb) (h3 : dx ≠ pb) (h4 : ∀ p ∈ news, p.1 ≠ pb) (hl : its.length < 100000) :
    CtrN w 2 56 [.ref lx, v] ((lx, instObj 59 dx) :: (dx, dictOf (lexDict w.params q1 q2 q3 q4 vn vi vw (.ref pb)) ne) :: (pb, listOf its.toArray np) :: news)
      (fun r news' => r = .none ∧ news' = (lx, instObj 59 dx) :: (dx, dictOf (lexDict w.params q1 q2 q3 q4 vn vi vw (.ref pb)) ne) :: (pb, listOf (its ++ [v]).toArray (np + 1)) :: news) := by
  unfold CtrN
  k_fill
  intro p loose mean mg mb dp un gd cn cs a ccd cl outer A₀ base h₀ L m s Q E X B F N T CH hk hdp hun hret
  w_on
  refine wpAny_call ?_
  k_dflt (refine' code_def ?k1 ?k2 ?k3 ?k4 ?k5 ?kA ?kF ?kK ?k6 ?k7 ?k8 ?k9 ?kB ?_ ?c2 ?c3 ?c4 ?c5; (case kA => exact rfl); (case kF => exact rfl); (case kK => assumption); (case k1 => k_asm); (case k2 => k_asm); (case k3 => k_asm); (case k4 => k_asm); (case k5 => k_asm); (case k6 => k_is); (case k7 => k_is); (case k8 => (show dp < recursionLimit; omega)); (case k9 => exact BindsTo.of_eq (binds := [(Str.ofString "self", Value.ref lx), (Str.ofString "token", v)]) rfl); (case c5 => decide); (case kB => exact locs rfl); (case c2 => exact rfl); (case c3 => exact rfl); (case c4 => exact rfl); k_whole; intro g' L' h' FG' F' N' B' X' T'; (try dsimp only); (try k_lift B'); (try k_fold))
  repeat' ((fail_if_success (with_reducible show wpAny _ _ (call (Value.builtin "list.append") _ _) _ _ _)); (first | (k_unfold; (try dsimp only)) | (k_end; wrow_close) | walk1 | (dsimp only; walk1) | (leave1; walk_say "STEP leave1"; try dsimp only) | fail "no step"))
  refine append_K F' N' (.tail h2 (.tail h3 (.head h4))) (fun h9 F9 N9 => ?_) (by rw [sizeLine_eq]; simp; omega)
  clear F' N'
  repeat' ((first | (k_unfold; (try dsimp only)) | (k_end; wrow_close) | walk1 | (dsimp only; walk1) | (leave1; walk_say "STEP leave1"; try dsimp only) | fail "no step"))
  rename Fr h₀ L _ _ => kF
  rename News h₀ L _ _ => kN
  refine hret _ _ _ _ ⟨rfl, rfl⟩ kF ?_
  simpa using kN
/-- a word pushed back is handed on -/
theorem pop_ok (w : World) (lx dx pb : Addr) (q1 q2 q3 q4 : Tok) (vn vi vw v : Value) (ne np : Nat) (its : List Value) (news : List (Addr × Obj)) (h2 : lx ≠ pb) (h3 : dx ≠ pb) (h4 : ∀ p ∈ news, p.1 ≠ pb) (hl : its.length < 100000) :
    CtrN w 2 49 [.ref lx] ((lx, instObj 59 dx) :: (dx, dictOf (lexDict w.params q1 q2 q3 q4 vn vi vw (.ref pb)) ne) :: (pb, listOf (v :: its).toArray np) :: news)
      (fun r news' => r = v ∧ ∃ np', news' = (lx, instObj 59 dx) :: (dx, dictOf (lexDict w.params q1 q2 q3 q4 vn vi vw (.ref pb)) ne) :: (pb, listOf its.toArray np') :: news) := by
  unfold CtrN
  k_fill
  intro p loose mean mg mb dp un gd cn cs a ccd cl outer A₀ base h₀ L m s Q E X B F N T CH hk hdp hun hret
  w_on
  refine wpAny_call ?_
  k_dflt (refine' code_def ?k1 ?k2 ?k3 ?k4 ?k5 ?kA ?kF ?kK ?k6 ?k7 ?k8 ?k9 ?kB ?_ ?c2 ?c3 ?c4 ?c5; (case kA => exact rfl); (case kF => exact rfl); (case kK => assumption); (case k1 => k_asm); (case k2 => k_asm); (case k3 => k_asm); (case k4 => k_asm); (case k5 => k_asm); (case k6 => k_is); (case k7 => k_is); (case k8 => (show dp < recursionLimit; omega)); (case k9 => exact BindsTo.of_eq (binds := [(Str.ofString "self", Value.ref lx)]) rfl); (case c5 => decide); (case kB => exact locs rfl); (case c2 => exact rfl); (case c3 => exact rfl); (case c4 => exact rfl); k_whole; intro g' L' h' FG' F' N' B' X' T'; (try dsimp only); (try k_lift B'); (try k_fold))
  repeat' ((fail_if_success (with_reducible show wpAny _ _ (truthy (Value.ref _)) _ _ _)); (first | (k_unfold; (try dsimp only)) | (k_end; wrow_close) | walk1 | (dsimp only; walk1) | (leave1; walk_say "STEP leave1"; try dsimp only) | fail "no step"))
  refine kgr_truthy N' (.tail _ (.tail _ (.head _))) rfl rfl (by simp; omega) ?_
  rw [show (!(v :: its).isEmpty) = true from rfl]
  repeat' ((fail_if_success (with_reducible show wpAny _ _ (call (Value.builtin "list.pop") _ _) _ _ _)); (first | (k_unfold; (try dsimp only)) | (k_end; wrow_close) | walk1 | (dsimp only; walk1) | (leave1; walk_say "STEP leave1"; try dsimp only) | fail "no step"))
  refine kl_popAt (p := []) (q := its) (y := v) (k := 0) F' N' (by rfl) (by simp [seqIndex?]) (by rfl) (.tail h2 (.tail h3 (.head h4))) (by rw [sizeLine_eq]; simp; omega) (fun h9 F9 N9 => ?_)
  clear F' N'
  repeat' ((first | (k_unfold; (try dsimp only)) | (k_end; wrow_close) | walk1 | (dsimp only; walk1) | (leave1; walk_say "STEP leave1"; try dsimp only) | fail "no step"))
  rename Fr h₀ L _ _ => kF
  rename News h₀ L _ _ => kN
  refine hret _ _ _ _ ⟨rfl, _, rfl⟩ kF kN
end
section
open PySem PySem.W PyProof.Rows PySem.Calls
theorem store_fn : StoreFacts "function" [.type "function", .type "object"] "object.__setattr__" "object" where
  mro := by kernel_rfl
  slot := .of (owner := "object") (n := "__setattr__") (by rw [typeLookup_type, builtinLookup_eq_fast]; kernel_rfl) (by decide +kernel) (by decide +kernel) (by decide +kernel)
    (by first | exact .inl (by decide +kernel) | exact .inr (by decide +kernel)) (by rw [isSubtype_type]; kernel_rfl)
  entry := PySem.F.entry_object_sa
  kind := by decide +kernel
  split := by decide +kernel
  hasOwner := by decide +kernel
  args := fun a b c => by unfold argsOk; kernel_rfl
  passes := fun self => by kernel_rfl
theorem fn_read : typeLookup (.type "function") (Str.ofString "read") = pure none := by rw [typeLookup_type, builtinLookup_eq_fast]; kernel_rfl
theorem setattr_fn {prog : Program} {w : World} {A : Around} {E : Value → Shared → Prop} {s : Shared} {h₀ : Heap} {L f : Nat} {m : Str → Option Value} {news : List (Addr × Obj)} {fd : FuncData} {v : Value} {Q : Unit → Shared → Prop}
    (F : Fr h₀ L s.heap m) (N : News h₀ L s.heap ((f, ({ cls := .type "function", data := .func fd } : Obj)) :: news)) (hoff : ∀ p ∈ news, p.1 ≠ f)
    (h : ∀ (d : Nat) h' tk tq n, Fr h₀ L h' m → News h₀ L h' ((d, dictOf [⟨PyData.keyHash w.params "read", .str "read" tq, v⟩] n) :: (f, ({ cls := .type "function", dict := some d, data := .func fd } : Obj)) :: news) → (∀ p ∈ news, p.1 < d) → f < d → Q () { s with heap := h', toks := tk }) :
    wpAny (model prog w) A (setAttr (.ref f) (Str.ofString "read") v) Q E s := by
  have hf := (N _ (.head _)).1
  have hT : s.TypeIs (.ref f) "function" := ⟨_, hf, rfl⟩
  refine wpAny_bind (wpAny_mkText (wpAny_bind (wpAny_callSpecial?_slot (s := { s with toks := s.toks + 1 }) hT store_fn.slot ?_)))
  refine wpAny_call_entry store_fn.slot hT store_fn.entry ?_ (store_fn.args _ _ _)
  rw [osa_eq, PySem.refuse_eq]
  refine wpAny_bind (wpAny_bind (wpAny_typeOf hT ?_))
  rw [store_fn.mro]
  refine wpAny_bind (wpAny_pure ?_)
  rw [store_fn.passes]
  refine wpAny_pure (wpAny_bind (wpAny_typeOf hT ?_))
  rw [fn_read]
  refine wpAny_bind (wpAny_pure (wpAny_bind (wpAny_pure ?_)))
  -- the store in the function's own dict, made here
  have hlt : f < s.heap.objs.size := Heap.lt_size hf
  have F1 := F.push ({ cls := .type "dict", data := .dict #[] } : Obj)
  have N1 := News.push F N ({ cls := .type "dict", data := .dict #[] } : Obj)
  have hne : s.heap.objs.size ≠ f := Nat.ne_of_gt hlt
  obtain ⟨F2, N2⟩ := news_upd (pre := [(s.heap.objs.size, ({ cls := .type "dict", data := .dict #[] } : Obj))]) (post := news) (f := fun o => { o with dict := some s.heap.objs.size }) F1 N1 (fun p hp => by rw [List.mem_singleton.mp hp]; exact hne) hoff rfl rfl
  refine wpAny_bind (wpAny_pure (wpAny_bind (wpAny_bind (wpAny_loadPart (o := ({ cls := .type "function", data := .func fd } : Obj)) hf ?_))))
  refine wpAny_bind (wpAny_alloc ?_)
  refine wpAny_bind (wpAny_update (o := ({ cls := .type "function", data := .func fd } : Obj)) (N1 _ (.tail _ (.head _))).1 ?_)
  -- no finaliser; the name is put
  refine wpAny_pure (a := some s.heap.objs.size) (wpAny_bind (wpAny_pure (wpAny_bind ?_)))
  have D2 := (N2 _ (.head _)).1
  obtain ⟨F3, N3⟩ := news_upd (pre := []) (post := (f, ({ cls := .type "function", dict := some s.heap.objs.size, data := .func fd } : Obj)) :: news) (f := Obj.putName "read" (PyData.keyHash w.params "read") (.str "read" (s.toks + 1)) v) F2 N2 (fun p hp => nomatch hp)
    (fun p hp => by
      rcases List.mem_cons.mp hp with rfl | hp
      · exact Nat.ne_of_lt hlt
      · exact Nat.ne_of_lt (Heap.lt_size (N p (.tail _ hp)).1)) (o' := dictOf [⟨PyData.keyHash w.params "read", .str "read" (s.toks + 1), v⟩] 1) (by rfl) rfl
  unfold nsSet
  refine wpAny_bind (wpAny_bind (wpAny_askSetting (wpAny_pure (wpAny_bind (wpAny_mkText (wpAny_bind (wpAny_loadPart D2 ?_)))))))
  refine wpAny_updatePart D2 ?_
  refine wpAny_bind (wpAny_lookBehind (N3 _ (.head _)).1 (pastItsLine_dict (by show 1 ≤ sizeLine + 1; omega)) ?_)
  exact wpAny_pure ⟨_, rfl, wpAny_pure (h s.heap.objs.size _ _ (s.toks + 1) 1 F3 N3 (fun p hp => Heap.lt_size (N p (.tail _ hp)).1) hlt)⟩
end
local macro_rules | `(tactic| k_all) => `(tactic| (refine allLt_ne ?_; assumption))
section
open PySem PySem.W PyProof.Rows PySem.Calls
theorem allLt_ne {d : Nat} : ∀ {l : List (Addr × Obj)}, AllLt d l → ∀ p ∈ l, p.1 ≠ d
  | [], _, _, hp => nomatch hp
  | q :: r, h, p, hp => by
    rcases List.mem_cons.mp hp with rfl | hp
    · exact Nat.ne_of_lt h.1
    · exact allLt_ne h.2 p hp
theorem allLt_up {c d : Nat} (h : c < d) : ∀ {l : List (Addr × Obj)}, AllLt c l → AllLt d l
  | [], _ => trivial
  | _ :: _, q => ⟨Nat.lt_trans q.1 h, allLt_up h q.2⟩
theorem news_rot {h₀ h : Heap} {L : Addr} {a b c : Addr × Obj} {l : List (Addr × Obj)} (N : News h₀ L h (a :: b :: c :: l)) : News h₀ L h (b :: c :: a :: l) := fun p hp => N p (by
  rcases List.mem_cons.mp hp with rfl | hp
  · exact .tail _ (.head _)
  rcases List.mem_cons.mp hp with rfl | hp
  · exact .tail _ (.tail _ (.head _))
  rcases List.mem_cons.mp hp with rfl | hp
  · exact .head _
  · exact .tail _ (.tail _ (.tail _ hp)))
section
theorem new_ok (w : World) (vi : Value) (news : List (Addr × Obj)) :
    CtrN w 4 59 [vi] news (fun r news' => ∃ (lx dx pb : Nat) (q1 q2 q3 q4 t1 t2 : Tok) (ne np : Nat), r = .ref lx ∧
      news' = (lx, instObj 59 dx) :: (dx, dictOf (lexDict w.params q1 q2 q3 q4 (.int 1 t1) vi (.str (Str.ofString "\n\t\r ") t2) (.ref pb)) ne) :: (pb, listOf ([] : List Value).toArray np) :: news ∧ AllLt dx news ∧ dx < lx ∧ lx < pb) := by
  unfold CtrN
  k_fill
  intro p loose mean mg mb dp un gd cn cs a ccd cl outer A₀ base h₀ L m s Q E X B F N T CH hk hdp hun hret
  w_on
  k_dflt (refine' call_cls ?k1 ?k2 ?k3 ?k4 ?k5 ?k6 ?_; (case k1 => k_asm); (case k2 => k_asm); (case k3 => k_asm); (case k4 => k_is); (case k5 => k_is); (case k6 => k_is); k_whole)
  intro x dx h1 F1 N1 l1 l2
  replace l1 := allLt_of l1
  replace l2 := ltN l2
  have l3 : AllLt x news := allLt_up l2 l1
  clear F N
  k_dflt (refine' code_def ?k1 ?k2 ?k3 ?k4 ?k5 ?kA ?kF ?kK ?k6 ?k7 ?k8 ?k9 ?kB ?_ ?c2 ?c3 ?c4 ?c5; (case kA => exact rfl); (case kF => exact rfl); (case kK => assumption); (case k1 => k_asm); (case k2 => k_asm); (case k3 => k_asm); (case k4 => k_asm); (case k5 => k_asm); (case k6 => k_is); (case k7 => k_is); (case k8 => (simp only [depth_under_make]; (show dp + 1 < recursionLimit); omega)); (case k9 => exact BindsTo.of_eq (binds := [(Str.ofString "self", Value.ref x), (Str.ofString "fp", vi)]) rfl); (case c5 => decide); (case kB => exact locs rfl); (case c2 => exact rfl); (case c3 => exact rfl); (case c4 => exact rfl); k_whole; intro g' L' h' FG' F' N' B' X' T'; (try dsimp only); (try k_lift B'); (try k_fold))
  repeat' ((first | (k_unfold; (try dsimp only)) | (k_end; wrow_close) | walk1 | (dsimp only; walk1) | (leave1; walk_say "STEP leave1"; try dsimp only) | fail "no step"))
  rename Fr h₀ L _ _ => kF
  rename News h₀ L _ _ => kN
  rename (_ < _ ∧ _ < _ ∧ AllLt _ _) => l4
  refine hret _ _ _ _ ⟨x, dx, _, _, _, _, _, _, _, _, _, rfl, rfl, l1, l2, l4.1⟩ kF (news_rot kN)
end
end
section
open PySem PySem.W PyProof.Rows PySem.Calls
/-- a function of the ledger that tells of each of these values, whatever else the ledger holds -/
def Tells1 (w : World) (k : Nat) (fl : Addr) (need : List (Addr × Obj)) (vs : List Value) (P : Value → Bool) : Prop :=
  ∀ v ∈ vs, ∀ news : List (Addr × Obj), (∀ p ∈ need, p ∈ news) → CtrN w k fl [v] news (fun r n' => r = .bool (P v) ∧ n' = news)
section
theorem split_ok (w : World) (k ls fl : Nat) (oc : Value) (od : Option Addr) (fd : FuncData) (sl : Array (Option Value)) (need : List (Addr × Obj)) (vs : List Value) (nn : Nat) (P : Value → Bool) (hT : Tells1 w k fl need vs P)
    (news : List (Addr × Obj)) (hneed : ∀ p ∈ need, p ∈ news) (hfl : (fl, (⟨oc, od, .func fd, sl⟩ : Obj)) ∈ news) (hls : (ls, listOf vs.toArray nn) ∈ news) (hlen : vs.length < 100000) :
    CtrN w (k + 2) 77 [.ref ls, .ref fl] news (fun r n' => ∃ (D Y Z : Nat) (ny nz : Nat), r = .ref D ∧
      n' = (D, ({ cls := .type "tuple", data := .seq [.ref Y, .ref Z].toArray } : Obj)) :: (Z, listOf (vs.filter fun v => !P v).toArray nz) :: (Y, listOf (vs.filter P).toArray ny) :: news ∧ AllLt Y news ∧ Y < Z ∧ Z < D) := by
  unfold CtrN
  k_fill
  intro p loose mean mg mb dp un gd cn cs a ccd cl outer A₀ base h₀ L m s Q E X B F N T CH hk hdp hun hret
  w_on
  refine wpAny_call ?_
  k_dflt (refine' code_def ?k1 ?k2 ?k3 ?k4 ?k5 ?kA ?kF ?kK ?k6 ?k7 ?k8 ?k9 ?kB ?_ ?c2 ?c3 ?c4 ?c5; (case kA => exact rfl); (case kF => exact rfl); (case kK => assumption); (case k1 => k_asm); (case k2 => k_asm); (case k3 => k_asm); (case k4 => k_asm); (case k5 => k_asm); (case k6 => k_is); (case k7 => k_is); (case k8 => (show dp < recursionLimit; omega)); (case k9 => exact BindsTo.of_eq (binds := [(Str.ofString "s", Value.ref ls), (Str.ofString "predicate", Value.ref fl)]) rfl); (case c5 => decide); (case kB => exact locs rfl); (case c2 => exact rfl); (case c3 => exact rfl); (case c4 => exact rfl); k_whole; intro g' L' h' FG' F' N' B' X' T'; (try dsimp only); (try k_lift B'); (try k_fold))
  have C' : CodeHd g' 83 79 ∧ CodeHd g' 98 96 := ⟨CH.1.keeps FG'.keep, CH.2.keeps FG'.keep⟩
  clear F N
  repeat' ((fail_if_success (with_reducible show wpAny _ _ (exec (Stmt.For _ _ _ _ _) _) _ _ _)); (first | (k_unfold; (try dsimp only)) | (k_end; wrow_close) | walk1 | (dsimp only; walk1) | (leave1; walk_say "STEP leave1"; try dsimp only) | fail "no step"))
  rename_i Y h1 l1 h2 Z h3 l2 h4 F4 N4
  have lY : AllLt Y news := allLt_of l1
  have hLs : L' < h4.objs.size := F4.ns.lt
  have hZs : Z < h4.objs.size := Heap.lt_size (N4 _ (.head _)).1
  have hYs : Y < h4.objs.size := Heap.lt_size (N4 _ (.tail _ (.head _))).1
  have hns : ∀ q ∈ news, q.1 < h4.objs.size := fun q hq => Heap.lt_size (N4 _ (.tail _ (.tail _ hq))).1
  with_unfolding_all refine' For_invVF F4 ?k1 ?k2 ?_
  (case k1 => exact rfl)
  (case k2 => exact rfl)
  walk1
  refine src_list (Led := fun (c : (List Value × Nat) × (List Value × Nat)) => (Z, listOf c.1.1.toArray c.1.2) :: (Y, listOf c.2.1.toArray c.2.2) :: news) (h₀ := g') (by rfl) ⟨_, (N4 _ (.tail _ (.tail _ hls))).1, rfl, nn, rfl⟩ (.inl ⟨_, fun c => .tail _ (.tail _ hls)⟩) fun o hS => ?_
  refine forSrc (σ := (List Value × Nat) × (List Value × Nat)) (Led := fun c => (Z, listOf c.1.1.toArray c.1.2) :: (Y, listOf c.2.1.toArray c.2.2) :: news)
    (mu := fun _ y => if y = Str.ofString "yes" then some (.ref Y) else if y = Str.ofString "no" then some (.ref Z) else if y = Str.ofString "predicate" then some (.ref fl) else none) (kept := [Str.ofString "yes", Str.ofString "no", Str.ofString "predicate"])
    (P := fun i c => c.1.1 = (vs.take i).filter (fun v => !P v) ∧ c.2.1 = (vs.take i).filter P) (c₀ := (([], 0), ([], 0))) hS (F4.push _) (newsPush N4 _) hLs ?hoff ?hm ⟨rfl, rfl⟩ ?turn ?done
  (case hoff =>
    intro q hq
    rcases List.mem_cons.mp hq with rfl | hq
    · exact Nat.ne_of_lt hZs
    rcases List.mem_cons.mp hq with rfl | hq
    · exact Nat.ne_of_lt hYs
    · exact Nat.ne_of_lt (hns q hq))
  (case hm => repeat' (first | exact List.forall_mem_nil _ | refine List.forall_mem_cons.mpr ⟨by with_unfolding_all rfl, ?_⟩))
  (case turn =>
    intro c i v u h tk oI hv hi hP hoff F8 N8
    clear F4 N4 hS
    repeat' ((fail_if_success (with_reducible show wpAny _ _ (callWith _ _ _ _ _) _ _ _)); (first | (k_unfold; (try dsimp only)) | (k_end; wrow_close) | walk1 | (dsimp only; walk1) | (leave1; walk_say "STEP leave1"; try dsimp only) | fail "no step"))
    refine callWith_F (FnAt.of N8 (.tail _ (.tail _ (.tail _ hfl)))) ?_
    repeat' ((fail_if_success (with_reducible show wpAny _ _ (call (Value.ref _) _ _) _ _ _)); (first | (k_unfold; (try dsimp only)) | (k_end; wrow_close) | walk1 | (dsimp only; walk1) | (leave1; walk_say "STEP leave1"; try dsimp only) | fail "no step"))
    · exact FnAt.of N8 (.tail _ (.tail _ (.tail _ hfl)))
    have hvm : v ∈ vs := List.mem_of_getElem? hv
    k_dflt (refine' ctrN_use (hT v hvm _ (fun q hq => .tail _ (.tail _ (.tail _ (hneed q hq))))) X' B' F8 N8 T' C' rfl ?dp ?un ?_)
    (case dp => show dp + 1 + k < recursionLimit; omega)
    (case un => show un + 3 + 8 * k < cLine; omega)
    rintro _ _ h7 tk7 ⟨rfl, rfl⟩ F7 N7
    clear F8 N8
    have hIZ : h4.objs.size ≠ Z := Nat.ne_of_gt hZs
    have hIY : h4.objs.size ≠ Y := Nat.ne_of_gt hYs
    have htake : vs.take (i + 1) = vs.take i ++ [v] := by rw [List.take_add_one, hv]; rfl
    have hcl1 : c.1.1.length < 100000 := by rw [hP.1]; exact Nat.lt_of_le_of_lt (List.length_filter_le ..) (by rw [List.length_take]; omega)
    have hcl2 : c.2.1.length < 100000 := by rw [hP.2]; exact Nat.lt_of_le_of_lt (List.length_filter_le ..) (by rw [List.length_take]; omega)
    cases hPv : P v
    · repeat' ((fail_if_success (with_reducible show wpAny _ _ (call (Value.builtin "list.append") _ _) _ _ _)); (first | (k_unfold; (try dsimp only)) | (k_end; wrow_close) | walk1 | (dsimp only; walk1) | (leave1; walk_say "STEP leave1"; try dsimp only) | fail "no step"))
      refine append_K F7 N7 (.tail hIZ (.head (List.forall_mem_cons.mpr ⟨Nat.ne_of_lt l2.1, allLt_ne l2.2⟩))) (fun h9 F9 N9 => ?_) (by rw [sizeLine_eq, List.size_toArray]; omega)
      clear F7 N7
      repeat' ((first | (k_unfold; (try dsimp only)) | (k_end; wrow_close) | walk1 | (dsimp only; walk1) | (leave1; walk_say "STEP leave1"; try dsimp only) | fail "no step"))
      refine ⟨((c.1.1 ++ [v], c.1.2 + 1), c.2), _, _, _, rfl, ⟨?_, ?_⟩, ?_, ?_, by assumption, ?_⟩
      · rw [htake, List.filter_append, ← hP.1]; simp [hPv]
      · rw [htake, List.filter_append, ← hP.2]; simp [hPv]
      · intro q hq
        rcases List.mem_cons.mp hq with rfl | hq
        · exact Nat.ne_of_lt hZs
        · exact hoff q (.tail _ hq)
      · repeat' (first | exact List.forall_mem_nil _ | refine List.forall_mem_cons.mpr ⟨by with_unfolding_all rfl, ?_⟩)
      · rw [List.push_toArray] at N9; exact N9
    · repeat' ((fail_if_success (with_reducible show wpAny _ _ (call (Value.builtin "list.append") _ _) _ _ _)); (first | (k_unfold; (try dsimp only)) | (k_end; wrow_close) | walk1 | (dsimp only; walk1) | (leave1; walk_say "STEP leave1"; try dsimp only) | fail "no step"))
      refine append_K F7 N7 (.tail hIY (.tail (Nat.ne_of_gt l2.1) (.head (allLt_ne lY)))) (fun h9 F9 N9 => ?_) (by rw [sizeLine_eq, List.size_toArray]; omega)
      clear F7 N7
      repeat' ((first | (k_unfold; (try dsimp only)) | (k_end; wrow_close) | walk1 | (dsimp only; walk1) | (leave1; walk_say "STEP leave1"; try dsimp only) | fail "no step"))
      refine ⟨(c.1, (c.2.1 ++ [v], c.2.2 + 1)), _, _, _, rfl, ⟨?_, ?_⟩, ?_, ?_, by assumption, ?_⟩
      · rw [htake, List.filter_append, ← hP.1]; simp [hPv]
      · rw [htake, List.filter_append, ← hP.2]; simp [hPv]
      · intro q hq
        rcases List.mem_cons.mp hq with rfl | hq
        · exact Nat.ne_of_lt hZs
        rcases List.mem_cons.mp hq with rfl | hq
        · exact Nat.ne_of_lt hYs
        · exact Nat.ne_of_lt (hns q hq)
      · repeat' (first | exact List.forall_mem_nil _ | refine List.forall_mem_cons.mpr ⟨by with_unfolding_all rfl, ?_⟩)
      · rw [List.push_toArray] at N9; exact N9)
  (case done =>
    intro c u h tk hP F8 N8
    clear F4 N4 hS
    dsimp only
    repeat' ((first | (k_unfold; (try dsimp only)) | (k_end; wrow_close) | walk1 | (dsimp only; walk1) | (leave1; walk_say "STEP leave1"; try dsimp only) | fail "no step"))
    rename (_ < _ ∧ _ < _ ∧ AllLt _ _) => l3
    rename Fr h₀ L _ _ => kF
    rename News h₀ L _ _ => kN
    obtain ⟨⟨zs, nz⟩, ⟨ys, ny⟩⟩ := c
    obtain ⟨rfl, rfl⟩ := hP
    rw [List.take_length] at kN
    exact hret _ _ _ _ ⟨_, Y, Z, ny, nz, rfl, rfl, lY, l2.1, l3.1⟩ kF kN)
end
end
local macro_rules | `(tactic| walk_at "eval Name") => `(tactic| ((with_reducible show wpAny _ _ (eval (Expr.Name _ _) (envX _ _ _ _ _ [_, _])) _ _ _); k_dflt (first
  | (refine' nameX_F ?N ?c ?m ?d ?_ ?a ?b; (case a => rfl); (case b => rfl); (case N => k_asm); (case c => rfl); (case m => k_mem); (case d => assumption); k_whole)
  | (refine' nameX_L ?F ?v ?_ ?a ?b; (case a => rfl); (case b => rfl); (case F => k_asm); (case v => exact rfl); k_whole))))
section
open PySem PySem.W PyProof.Rows PySem.Calls
/-- a function's table of the code within it: two codes, or none yet -/
def tab79 : Option (Nat × Obj × Nat × Obj) → List (Addr × Obj)
  | none => [(79, tabObj #[])]
  | some (c1, o1, c2, o2) => [(79, tabObj #[rawInt 94, rawInt 4, .ref c1, rawInt 98, rawInt 13, .ref c2]), (c1, o1), (c2, o2)]
def codeOk (o : Obj) (q : Str) : Prop := ∃ vs t, o.data = .fields vs ∧ vs[1]? = some (.str q t)
def ok79 : Option (Nat × Obj × Nat × Obj) → Prop
  | none => True
  | some (_, o1, _, o2) => codeOk o1 (Str.ofString "_law_lexer.<locals>._law_read_on") ∧ codeOk o2 (Str.ofString "_law_lexer.<locals>.<lambda>")
/-- a reader of one sign at a time -/
def RdOk (w : World) (f1 : Addr) (need : List (Addr × Obj)) (la : Addr) (txt : Str) : Prop :=
  ∀ (i : Nat) (ti t1 : Tok) (n : Nat) (rest : List (Addr × Obj)), i ≤ txt.length → (∀ p ∈ need, p ∈ rest) → (∀ p ∈ rest, p.1 ≠ la) →
    CtrN w 3 f1 [.int 1 t1] ((la, listOf [.int (i : Int) ti].toArray n) :: rest) (fun r n' => ∃ t t', r = .str (S ((txt.cps.toList.drop i).take 1)) t ∧ n' = (la, listOf [.int ((i + ((txt.cps.toList.drop i).take 1).length : Nat) : Int) t'].toArray n) :: rest)
/-- what a new lexer adds to the ledger -/
structure LexH where
  (lx dx pb ds f2 f1 la ca cw : Nat)
  (q1 q2 q3 q4 t1 t2 tq tl : Tok)
  (ne np n5 nl : Nat)
  (o2 of1 oca ocw : Obj)
def LexH.led (w : World) (x : LexH) : List (Addr × Obj) :=
  [(x.lx, instObj 59 x.dx), (x.dx, dictOf (lexDict w.params x.q1 x.q2 x.q3 x.q4 (.int 1 x.t1) (.ref x.f2) (.str (Str.ofString "\n\t\r ") x.t2) (.ref x.pb)) x.ne), (x.pb, listOf ([] : List Value).toArray x.np),
   (x.ds, dictOf [⟨PyData.keyHash w.params "read", .str "read" x.tq, .ref x.f1⟩] x.n5), (x.f2, x.o2), (x.f1, x.of1), (x.la, listOf [.int 0 x.tl].toArray x.nl), (x.ca, x.oca), (x.cw, x.ocw)]
theorem lexFin {w : World} {h₀ h : Heap} {L : Addr} {news : List (Addr × Obj)} {lx dx pb ds f2 f1 la ca cw c1 c2 : Nat} {q1 q2 q3 q4 t1 t2 tq tl : Tok} {ne np n5 nl : Nat} {o2 of1 oca ocw oc1 oc2 : Obj}
    (N : News h₀ L h ((lx, instObj 59 dx) :: (dx, dictOf (lexDict w.params q1 q2 q3 q4 (.int 1 t1) (.ref f2) (.str (Str.ofString "\n\t\r ") t2) (.ref pb)) ne) :: (pb, listOf ([] : List Value).toArray np) ::
      (ds, dictOf [⟨PyData.keyHash w.params "read", .str "read" tq, .ref f1⟩] n5) :: (f2, o2) :: (c2, oc2) :: (f1, of1) :: (c1, oc1) :: (la, listOf #[.int 0 tl] nl) :: (ca, oca) :: (cw, ocw) :: (79, tabObj #[rawInt 94, rawInt 4, .ref c1, rawInt 98, rawInt 13, .ref c2]) :: news)) :
    ∃ x : LexH, News h₀ L h (x.led w ++ (tab79 (some (c1, oc1, c2, oc2)) ++ news)) ∧ x.lx = lx ∧ x.dx = dx ∧ x.pb = pb ∧ x.ds = ds ∧ x.f2 = f2 ∧ x.f1 = f1 ∧ x.la = la ∧ x.ca = ca ∧ x.cw = cw ∧ x.o2 = o2 ∧ x.of1 = of1 ∧ x.oca = oca ∧ x.ocw = ocw := by
  refine ⟨⟨lx, dx, pb, ds, f2, f1, la, ca, cw, q1, q2, q3, q4, t1, t2, tq, tl, ne, np, n5, nl, o2, of1, oca, ocw⟩, news_sub0 N ?_, rfl, rfl, rfl, rfl, rfl, rfl, rfl, rfl, rfl, rfl, rfl, rfl, rfl⟩
  simp only [LexH.led, tab79, List.cons_append, List.nil_append]
  (repeat (refine List.forall_mem_cons.mpr ⟨by k_mem, ?_⟩)); (intro q hq); (repeat' (first | exact hq | refine List.Mem.tail _ ?_))
theorem cell_some {o : Obj} {a : Option Value} {v : Value} (h : o.data = .cell a) (e : a = some v) : o.data = .cell (some v) := e ▸ h
theorem slice1 (x : Str) (i : Nat) (hi : i ≤ x.length) : Txt.slice x (some (i : Int)) (some ((i + 1 : Nat) : Int)) = S ((x.cps.toList.drop i).take 1) := by
  show StrLaws.sliceText x (some (i : Int)) (some ((i + 1 : Nat) : Int)) = _
  rcases Nat.lt_or_ge i x.length with h | h
  · have hl : x.cps.toList.length = x.length := by simp [Str.length]
    rw [StrLaws.sliceText_plain ⟨by omega, by omega, by rw [hl]; omega⟩]
    have e1 : ((i : Nat) : Int).toNat = i := by omega
    have e2 : (((i + 1 : Nat) : Int) - (i : Int)).toNat = 1 := by omega
    rw [e1, e2]
  · have hie : i = x.length := by omega
    subst hie
    have e : StrLaws.sliceText x (some (x.length : Int)) (some ((x.length + 1 : Nat) : Int)) = StrLaws.sliceText x (some (x.length : Int)) (some (x.length : Int)) := by
      unfold StrLaws.sliceText
      have : Builtin.Str.strSliceIndices (some (x.length : Int)) (some ((x.length + 1 : Nat) : Int)) 1 x.length = Builtin.Str.strSliceIndices (some (x.length : Int)) (some (x.length : Int)) 1 x.length := by
        unfold Builtin.Str.strSliceIndices
        have e1 : ¬ (((x.length + 1 : Nat) : Int) < 0) := by omega
        have e2 : ¬ ((x.length : Int) < 0) := by omega
        have e3 : min ((x.length + 1 : Nat) : Int) (x.length : Int) = min (x.length : Int) (x.length : Int) := by omega
        simp only [e1, e2, if_false, e3, show (1 : Int) > 0 by decide, if_true]
      rw [this]
    rw [e, StrLaws.sliceText_plain ⟨by omega, by omega, by simp [Str.length]⟩]
    simp
    exact Nat.le_refl _
theorem news_skip4 {h₀ h : Heap} {L : Addr} {a b c d e : Addr × Obj} {l : List (Addr × Obj)} (N : News h₀ L h (a :: b :: c :: d :: e :: l)) : News h₀ L h (a :: l) := fun p hp => N p (by
  rcases List.mem_cons.mp hp with rfl | hp
  · exact .head _
  · exact .tail _ (.tail _ (.tail _ (.tail _ (.tail _ hp)))))
theorem news_cons {h₀ h : Heap} {L : Addr} {a : Addr × Obj} {l : List (Addr × Obj)} (ha : h.get? a.1 = some a.2 ∧ a.1 ≠ L ∧ h₀.get? a.1 = none) (N : News h₀ L h l) : News h₀ L h (a :: l) := List.forall_mem_cons.mpr ⟨ha, N⟩
theorem news_need {h₀ h : Heap} {L : Addr} {a : Addr × Obj} {need rest : List (Addr × Obj)} (N : News h₀ L h (a :: rest)) (hn : ∀ p ∈ need, p ∈ rest) : News h₀ L h (a :: (need ++ rest)) := fun p hp => N p (by
  rcases List.mem_cons.mp hp with rfl | hp
  · exact .head _
  rcases List.mem_append.mp hp with hp | hp
  · exact .tail _ (hn p hp)
  · exact .tail _ hp)
section
theorem lex_ok0 (w : World) (txt : Str) (tt : Tok) (hlen : txt.length < 1000) (news : List (Addr × Obj)) (hlow : ∀ q ∈ news, 79 < q.1) :
    CtrN w 6 84 [.str txt tt] (tab79 none ++ news) (fun r n' => ∃ (x : LexH) (c1 : Nat) (oc1 : Obj) (c2 : Nat) (oc2 : Obj) (fd2 fd1 : FuncData), r = .ref x.lx ∧ n' = x.led w ++ (tab79 (some (c1, oc1, c2, oc2)) ++ news) ∧ ok79 (some (c1, oc1, c2, oc2)) ∧ x.o2 = { cls := .type "function", dict := some x.ds, data := .func fd2 } ∧ x.of1 = { cls := .type "function", data := .func fd1 } ∧
      (AllLt x.cw news ∧ 79 < x.cw ∧ x.cw < x.ca ∧ x.ca < x.la ∧ x.la < x.f1 ∧ x.f1 < x.f2 ∧ x.f2 < x.ds ∧ x.ds < x.dx ∧ x.dx < x.lx ∧ x.lx < x.pb) ∧ (c1 < x.ds ∧ c2 < x.ds ∧ c1 ≠ x.la ∧ c2 ≠ x.la ∧ AllLt c1 news ∧ AllLt c2 news) ∧
      RdOk w x.f1 [(x.f1, x.of1), (x.ca, x.oca), (x.cw, x.ocw), (c1, oc1)] x.la txt) := by
  unfold CtrN
  k_fill
  intro p loose mean mg mb dp un gd cn cs a ccd cl outer A₀ base h₀ L m s Q E X B F N T C hk hdp hun hret
  replace N : News h₀ L s.heap ((79, tabObj #[]) :: news) := N
  w_on
  refine wpAny_call ?_
  k_dflt (refine' code_defC (binds := [(Str.ofString "written", Value.str txt tt)]) ?k1 ?k2 ?k3 ?k4 ?k5 ?kA ?kF ?kK ?k6 ?k7 ?k8 ?k9 ?kB ?kD ?_ ?c2 ?c3 ?c4; (case kA => exact rfl); (case kF => exact rfl); (case kK => assumption); (case k1 => k_asm); (case k2 => k_asm); (case k3 => k_asm); (case k4 => k_asm); (case k5 => k_asm); (case k6 => k_is); (case k7 => k_is); (case k8 => (show dp < recursionLimit; omega)); (case k9 => exact BindsTo.of_eq rfl); (case kB => exact rfl); (case kD => decide +kernel); (case c2 => exact rfl); (case c3 => exact rfl); (case c4 => exact rfl); k_whole; intro g' L' h' tk' cells' FG' F' N' Y' B' X' T' l1; k_cells Y'; (try simp only [List.cons_append, List.nil_append] at N'); (try dsimp only); (try k_lift B'); (try k_fold))
  have C' : CodeHd g' 83 79 := C.1.keeps FG'.keep
  have C'2 : CodeHd g' 98 96 := C.2.keeps FG'.keep
  have l79 := ltN (l1 _ (.head _))
  dsimp only at l79
  have lN1 : AllLt (L' + 1) news := allLt_of fun q hq => Nat.lt_succ_of_lt (l1 q (.tail _ hq))
  have lN2 : AllLt (L' + 1 + 1) news := allLt_of fun q hq => Nat.lt_succ_of_lt (Nat.lt_succ_of_lt (l1 q (.tail _ hq)))
  have o79 : OwnOff news [79] := fun q hq b hb => by rw [List.mem_singleton.mp hb]; exact Nat.ne_of_gt (hlow q hq)
  clear l1
  repeat' ((fail_if_success (with_reducible show wpAny _ _ (setAttr _ _ _) _ _ _)); (first | (k_unfold; (try dsimp only)) | (k_end; wrow_close) | walk1 | (dsimp only; walk1) | (leave1; walk_say "STEP leave1"; try dsimp only) | fail "no step"))
  rename_i la hA lA hB oca dca f1 c1 oc1 vs1 tv1 ct1 dc1 h1 tk1 d11 d12 l11 l12 h2 f2 c2 oc2 vs2 tv2 ct2 h3 tk3 d21 d22 l21 l22 h4 F4 N4
  have lf2 : AllLt f2 news := allLt_up l22 l21.2.2.2.2.2.2
  refine setattr_fn F4 N4 (by k_all) ?_
  intro ds h5 tk5 tq5 n5 F5 N5 l5 l6
  clear F4 N4
  replace l5 := allLt_of l5
  simp only [AllLt, and_true] at l5
  repeat' ((fail_if_success (with_reducible show wpAny _ _ (call (Value.ref _) _ _) _ _ _)); (first | (k_unfold; (try dsimp only)) | (k_end; wrow_close) | walk1 | (dsimp only; walk1) | (leave1; walk_say "STEP leave1"; try dsimp only) | fail "no step"))
  k_dflt (refine' ctrN_use (new_ok w (.ref f2) _) X' B' F5 N5 T' ⟨C', C'2⟩ rfl ?dp ?un ?_)
  (case dp => show dp + 1 + 4 < recursionLimit; omega)
  (case un => show un + 3 + 8 * 4 < cLine; omega)
  rintro _ _ h6 tk6 ⟨lx, dx, pb, q1, q2, q3, q4, t1, t2, ne, np, rfl, rfl, l7, l8, l9⟩ F6 N6
  clear F5 N5
  repeat' ((first | (k_unfold; (try dsimp only)) | (k_end; wrow_close) | walk1 | (dsimp only; walk1) | (leave1; walk_say "STEP leave1"; try dsimp only) | fail "no step"))
  rename Fr h₀ L _ _ => kF
  rename News h₀ L _ _ => kN
  have l7' := l7
  simp only [AllLt] at l7'
  obtain ⟨x, kn, e1, e2, e3, e4, e5, e6, e7, e8, e9, e10, e11, e12, e13⟩ := lexFin kN
  refine hret _ _ _ _ ⟨x, c1, oc1, c2, oc2, _, _, by rw [e1], rfl, ⟨⟨_, _, d11, d12⟩, ⟨_, _, d21, d22⟩⟩, by rw [e10, e4], e11, ?ord, ?ord2, ?rd⟩ kF kn
  (case ord =>
    rw [e1, e2, e3, e4, e5, e6, e7, e8, e9]
    exact ⟨lN1, by omega, by omega, lA.1, by omega, by omega, l6, l7'.1, l8, l9⟩)
  (case ord2 =>
    rw [e4, e7]
    exact ⟨by omega, l5.1, by omega, by omega, l11.2.2.2.2, l21.2.2.2.2.2.2⟩)
  (case rd =>
    rw [e6, e11, e8, e12, e9, e13, e7]
    rename (_ = Data.cell (bindC _ _ _ (Str.ofString "written"))) => dcw0
    clear kn e1 e2 e3 e4 e5 e6 e7 e8 e9 e10 e11 e12 e13 kN kF N6 F6 hret l7 l7' l8 l9 l5 l6 N F hlow
    unfold RdOk CtrN
    intro i ti tone n rest hi hneed hoff p2 loose2 mean2 mg2 mb2 dp2 un2 gd2 cn2 cs2 a2 ccd2 cl2 outer2 A2 base2 h02 L2 m2 s2 Q2 E2 X2 B2 F2 N2 T2 CH2 hk2 hdp2 hun2 hret2
    have N3 := news_need N2 hneed
    simp only [List.cons_append, List.nil_append] at N3
    clear N2
    replace dcw0 := cell_some dcw0 (v := Value.str txt tt) rfl
    have oR : OwnOff rest [la] := fun q hq b hb => by rw [List.mem_singleton.mp hb]; exact hoff q hq
    refine wpAny_call ?_
    k_dflt (refine' code_nest (binds := [(Str.ofString "size", Value.int 1 tone)]) ?k1 ?k2 ?k3 ?k4 ?k5 ?kA ?kF ?kK ?k6 ?k7 ?k8 ?k9 ?kB ?_ ?c2 ?c3 ?c4 ?c5; (case kA => exact rfl); (case kF => exact rfl); (case kK => assumption); (case k1 => exact B2); (case k2 => exact F2); (case k3 => exact X2); (case k4 => exact N3); (case k5 => exact T2); (case k6 => k_mem); (case k7 => exact codeRec_news N3 (by k_mem) d11 d12); (case k8 => (show dp2 < recursionLimit; omega)); (case k9 => exact BindsTo.of_eq rfl); (case c5 => decide); (case kB => exact locs rfl); (case c2 => exact rfl); (case c3 => exact rfl); (case c4 => exact rfl); k_whole)
    intro g3 L3 h3' FG3 F3 N3' B3 X3 T3
    clear X' B' T' FG' C' C'2 X B T C F2 N3
    (try dsimp only)
    (try k_fold)
    generalize qualnameIn _ _ _ = qn at *
    rename (_ = Data.cell (bindC _ _ _ (Str.ofString "at"))) => dd
    clear dd
    repeat' ((fail_if_success (with_reducible show wpAny _ _ (subscriptTail _ _ (Value.str _ _) _) _ _ _)); (first | (k_unfold; (try dsimp only)) | (k_end; wrow_close) | walk1 | (dsimp only; walk1) | (leave1; walk_say "STEP leave1"; try dsimp only) | fail "no step"))
    with_unfolding_all refine' slice_strN_ss (i := (i : Int)) (j := ((i + 1 : Nat) : Int)) F3 N3' (fun h7 t7 k7 F7 N7 => ?_) ?hs ?ht ?hsz
    (case hs => with_unfolding_all rfl)
    (case ht => intro _; with_unfolding_all rfl)
    (case hsz => rw [sizeLine_eq]; omega)
    rw [slice1 txt i hi]
    dsimp only
    generalize hsg : (txt.cps.toList.drop i).take 1 = sg
    have hsl : (S sg).length ≤ 1 := by subst hsg; simp [Str.length]; omega
    clear F3 N3'
    repeat' ((first | (k_unfold; (try dsimp only)) | (k_end; wrow_close) | walk1 | (dsimp only; walk1) | (leave1; walk_say "STEP leave1"; try dsimp only) | fail "no step"))
    rename Fr h02 L2 _ _ => kF
    rename News h02 L2 _ _ => kN
    subst hsg
    exact hret2 _ _ _ _ ⟨t7, _, rfl, by with_unfolding_all rfl⟩ kF (news_skip4 kN))
end
end
section
open PySem PySem.W PyProof.Rows PySem.Calls
section
theorem lex_ok1 (w : World) (txt : Str) (tt : Tok) (hlen : txt.length < 1000) (news : List (Addr × Obj)) (c1 c2 : Nat) (o1 o2 : Obj) (hok : ok79 (some (c1, o1, c2, o2))) (hlow : ∀ q ∈ news, 79 < q.1) (hc : 79 < c1 ∧ 79 < c2) :
    CtrN w 6 84 [.str txt tt] (tab79 (some (c1, o1, c2, o2)) ++ news) (fun r n' => ∃ (lx dx pb : Nat) (vi : Value) (q1 q2 q3 q4 t1 t2 : Tok) (ne np : Nat), r = .ref lx ∧
      n' = (lx, instObj 59 dx) :: (dx, dictOf (lexDict w.params q1 q2 q3 q4 (.int 1 t1) vi (.str (Str.ofString "\n\t\r ") t2) (.ref pb)) ne) :: (pb, listOf ([] : List Value).toArray np) :: (tab79 (some (c1, o1, c2, o2)) ++ news) ∧
      AllLt dx (tab79 (some (c1, o1, c2, o2)) ++ news) ∧ dx < lx ∧ lx < pb) := by
  unfold CtrN
  k_fill
  intro p loose mean mg mb dp un gd cn cs a ccd cl outer A₀ base h₀ L m s Q E X B F N T C hk hdp hun hret
  replace N : News h₀ L s.heap ((79, tabObj #[rawInt 94, rawInt 4, .ref c1, rawInt 98, rawInt 13, .ref c2]) :: (c1, o1) :: (c2, o2) :: news) := N
  w_on
  refine wpAny_call ?_
  k_dflt (refine' code_defC (binds := [(Str.ofString "written", Value.str txt tt)]) ?k1 ?k2 ?k3 ?k4 ?k5 ?kA ?kF ?kK ?k6 ?k7 ?k8 ?k9 ?kB ?kD ?_ ?c2 ?c3 ?c4; (case kA => exact rfl); (case kF => exact rfl); (case kK => assumption); (case k1 => k_asm); (case k2 => k_asm); (case k3 => k_asm); (case k4 => k_asm); (case k5 => k_asm); (case k6 => k_is); (case k7 => k_is); (case k8 => (show dp < recursionLimit; omega)); (case k9 => exact BindsTo.of_eq rfl); (case kB => exact rfl); (case kD => decide +kernel); (case c2 => exact rfl); (case c3 => exact rfl); (case c4 => exact rfl); k_whole; intro g' L' h' tk' cells' FG' F' N' Y' B' X' T' l1; k_cells Y'; (try simp only [List.cons_append, List.nil_append] at N'); (try dsimp only); (try k_lift B'); (try k_fold))
  have C' : CodeHd g' 83 79 := C.1.keeps FG'.keep
  have C'2 : CodeHd g' 98 96 := C.2.keeps FG'.keep
  have l79 := ltN (l1 _ (.head _))
  dsimp only at l79
  have lN1 : AllLt (L' + 1) news := allLt_of fun q hq => Nat.lt_succ_of_lt (l1 q (.tail _ (.tail _ (.tail _ hq))))
  have lN2 : AllLt (L' + 1 + 1) news := allLt_of fun q hq => Nat.lt_succ_of_lt (Nat.lt_succ_of_lt (l1 q (.tail _ (.tail _ (.tail _ hq)))))
  have lc1 := ltN (l1 _ (.tail _ (.head _)))
  have lc2 := ltN (l1 _ (.tail _ (.tail _ (.head _))))
  dsimp only at lc1 lc2
  have o79 : OwnOff news [79] := fun q hq b hb => by rw [List.mem_singleton.mp hb]; exact Nat.ne_of_gt (hlow q hq)
  clear l1
  repeat' ((fail_if_success (with_reducible show wpAny _ _ (setAttr _ _ _) _ _ _)); (first | (k_unfold; (try dsimp only)) | (k_end; wrow_close) | walk1 | (dsimp only; walk1) | (leave1; walk_say "STEP leave1"; try dsimp only) | fail "no step"))
  rename_i la hA lA hB oca dca f1 ct1 dc1 h1 tk1 l11 h2 f2 ct2 h3 tk3 l21 h4 F4 N4
  have lf2 : AllLt f2 news := l21.2.2.2.2.2.2.2
  refine setattr_fn F4 N4 (by k_all) ?_
  intro ds h5 tk5 tq5 n5 F5 N5 l5 l6
  clear F4 N4
  replace l5 := allLt_of l5
  simp only [AllLt, and_true] at l5
  repeat' ((fail_if_success (with_reducible show wpAny _ _ (call (Value.ref _) _ _) _ _ _)); (first | (k_unfold; (try dsimp only)) | (k_end; wrow_close) | walk1 | (dsimp only; walk1) | (leave1; walk_say "STEP leave1"; try dsimp only) | fail "no step"))
  k_dflt (refine' ctrN_use (new_ok w (.ref f2) _) X' B' F5 N5 T' ⟨C', C'2⟩ rfl ?dp ?un ?_)
  (case dp => show dp + 1 + 4 < recursionLimit; omega)
  (case un => show un + 3 + 8 * 4 < cLine; omega)
  rintro _ _ h6 tk6 ⟨lx, dx, pb, q1, q2, q3, q4, t1, t2, ne, np, rfl, rfl, l7, l8, l9⟩ F6 N6
  clear F5 N5
  repeat' ((first | (k_unfold; (try dsimp only)) | (k_end; wrow_close) | walk1 | (dsimp only; walk1) | (leave1; walk_say "STEP leave1"; try dsimp only) | fail "no step"))
  rename Fr h₀ L _ _ => kF
  rename News h₀ L _ _ => kN
  simp only [AllLt] at l7
  have lz : AllLt dx (tab79 (some (c1, o1, c2, o2)) ++ news) := by
    refine (show 79 < dx ∧ c1 < dx ∧ c2 < dx ∧ AllLt dx news from ⟨?_, ?_, ?_, allLt_up ?_ lf2⟩)
    all_goals omega
  refine hret _ _ _ _ ⟨lx, dx, pb, .ref f2, q1, q2, q3, q4, t1, t2, ne, np, rfl, rfl, lz, l8, l9⟩ kF ?_
  refine (show News h₀ L h6 ((lx, _) :: (dx, _) :: (pb, _) :: (79, tabObj _) :: (c1, o1) :: (c2, o2) :: news) from ?_)
  exact news_cons (kN _ (by k_mem)) (news_cons (kN _ (by k_mem)) (news_cons (kN _ (by k_mem)) (news_cons (kN _ (by k_mem)) (news_cons (kN _ (by k_mem)) (news_cons (kN _ (by k_mem)) (fun q hq => kN q (by
    repeat' (first | exact hq | refine List.Mem.tail _ ?_))))))))
end
end
section
open StrLaws in
theorem at_dots {x : Str} {k : Nat} : At x (S [46, 46, 46]) x.length k ↔ (x.cps.toList.drop k).take 3 = [46, 46, 46] := by
  have h3 : (S [46, 46, 46]).length = 3 := rfl
  constructor
  · rintro ⟨_, h⟩
    rw [subAt_eq] at h
    exact eq_of_beq h
  · intro h
    refine ⟨?_, by rw [subAt_eq, h3, h]; rfl⟩
    have := congrArg List.length h
    simp at this
    rw [h3]
    show k + 3 ≤ x.cps.size
    omega
def tl (u : List Nat) : List Nat := u.flatMap fun d => [d, 46, 46, 46]
open StrLaws in
theorem parts_tl (x : Str) : ∀ (v : List Nat) (a : Nat) (cuts : List Nat) (f : Nat), 46 ∉ v → a ≤ x.length → x.cps.toList.drop a = tl v → ChainG x (S [46, 46, 46]) x.length a cuts f → (∀ k, f ≤ k → ¬ At x (S [46, 46, 46]) x.length k) →
    partsFrom x 3 a cuts = (v.map fun c => S [c]) ++ [S []]
  | [], a, cuts, f, _, ha, hd, hG, hn => by
    cases cuts with
    | nil =>
      show [Builtin.Str.strSub x a x.length] = [S []]
      refine congrArg (fun z => [z]) (mk_of_toList (l := []) ?_)
      rw [strSub_toList, hd]; simp [tl]
    | cons c r =>
      exfalso
      have h1 := at_dots.mp hG.2.1
      have h2 : x.cps.toList.drop c = [] := by
        have h3 := hG.1
        have h4 : x.cps.toList.drop c = (x.cps.toList.drop a).drop (c - a) := by rw [List.drop_drop]; congr 1; omega
        rw [h4, hd]; simp [tl]
      rw [h2] at h1; cases h1
  | d :: v, a, cuts, f, hv, ha, hd, hG, hn => by
    have hd' : x.cps.toList.drop a = d :: 46 :: 46 :: 46 :: tl v := hd
    have h46 : d ≠ 46 := fun e => hv (e ▸ List.mem_cons_self ..)
    have e1 : x.cps.toList.drop (a + 1) = 46 :: 46 :: 46 :: tl v := by rw [← List.drop_drop, hd']; rfl
    have e4 : x.cps.toList.drop (a + 1 + 3) = tl v := by rw [← List.drop_drop, e1]; rfl
    have hA : At x (S [46, 46, 46]) x.length (a + 1) := at_dots.mpr (by rw [e1]; rfl)
    cases cuts with
    | nil =>
      exfalso
      have : f = a := hG
      exact hn (a + 1) (by omega) hA
    | cons c r =>
      obtain ⟨g1, g2, g3, g4⟩ := hG
      have hc : c = a + 1 := by
        by_cases q1 : c = a
        · exfalso
          subst q1
          have := at_dots.mp g2
          rw [hd'] at this
          simp at this
          exact h46 this
        · by_cases q2 : a + 1 < c
          · exact absurd hA (g3 _ (by omega) q2)
          · omega
      subst hc
      have hl : a + 1 + 3 ≤ x.length := g2.1
      have ih := parts_tl x v (a + 1 + 3) r f (fun m => hv (List.mem_cons_of_mem _ m)) hl e4 g4 hn
      show Builtin.Str.strSub x a (a + 1) :: partsFrom x 3 (a + 1 + 3) r = S [d] :: ((v.map fun c => S [c]) ++ [S []])
      rw [ih]
      refine congrArg (fun z => z :: _) (mk_of_toList (l := [d]) ?_)
      rw [strSub_toList, hd', show a + 1 - a = 1 by omega]; rfl
open StrLaws in
theorem dot_split (u : List Nat) (hu : 46 ∉ u) : Txt.split (S (46 :: 46 :: 46 :: tl u)) (Str.ofString "...") = S [] :: (u.map fun c => S [c]) ++ [S []] ∧
    (Builtin.Str.occurrences (S (46 :: 46 :: 46 :: tl u)) (Str.ofString "...") 0 (S (46 :: 46 :: 46 :: tl u)).length 1).isEmpty = false := by
  rw [dots_eq]
  have hA0 : At (S (46 :: 46 :: 46 :: tl u)) (S [46, 46, 46]) (S (46 :: 46 :: 46 :: tl u)).length 0 := at_dots.mpr rfl
  constructor
  · obtain ⟨f, hG, hn⟩ := occ_tight (S (46 :: 46 :: 46 :: tl u)) (S [46, 46, 46]) (by decide)
    unfold Txt.split
    rw [if_neg ?c1]
    (case c1 =>
      rw [Bool.or_eq_true, decide_eq_true_eq, decide_eq_true_eq]
      rintro (h | h)
      · have := hA0.1; omega
      · have : Builtin.Str.strKind (S [46, 46, 46]) = 1 := by decide +kernel
        rw [this] at h
        unfold Builtin.Str.strKind at h
        split at h
        · omega
        · split at h <;> omega)
    generalize hcu : Builtin.Str.occurrences (S (46 :: 46 :: 46 :: tl u)) (S [46, 46, 46]) 0 (S (46 :: 46 :: 46 :: tl u)).length ((S (46 :: 46 :: 46 :: tl u)).length + 1) = cuts at *
    cases cuts with
    | nil =>
      exfalso
      have : f = 0 := hG
      exact hn 0 (by omega) hA0
    | cons c r =>
      obtain ⟨g1, g2, g3, g4⟩ := hG
      have hc : c = 0 := by
        by_cases q : c = 0
        · exact q
        · exact absurd hA0 (g3 0 (by omega) (by omega))
      subst hc
      rw [if_neg (by simp), partsBetween_eq]
      show Builtin.Str.strSub _ 0 0 :: partsFrom _ 3 (0 + 3) r = _
      rw [parts_tl _ u (0 + 3) r f hu g2.1 rfl g4 hn]
      refine congrArg (fun z => z :: _) (mk_of_toList (l := []) ?_)
      rw [strSub_toList]; rfl
  · rcases occ_head_from (S (46 :: 46 :: 46 :: tl u)) (S [46, 46, 46]) 0 1 (Nat.le_refl _) with ⟨_, h0⟩ | ⟨k', r', h1, _⟩
    · exact absurd hA0 (h0 0 (Nat.le_refl _))
    · rw [h1]; rfl
theorem rep3 (a b c : Nat) (hab : a ≠ b) (hac : a ≠ c) (hbc : b ≠ c) (h1 : a ≠ 46) (h2 : b ≠ 46) (h3 : c ≠ 46) : ∀ u : List Nat, (∀ d ∈ u, d = a ∨ d = b ∨ d = c) → rep1 c (rep1 b (rep1 a u)) = tl u
  | [], _ => rfl
  | d :: u, h => by
    have ih := rep3 a b c hab hac hbc h1 h2 h3 u fun e he => h e (List.mem_cons_of_mem _ he)
    have e1 : rep1 a (d :: u) = rep1 a [d] ++ rep1 a u := rep1_append a [d] u
    rw [e1, rep1_append, rep1_append, ih]
    show _ = [d, 46, 46, 46] ++ tl u
    congr 1
    have k1 := h1.symm
    have k2 := h2.symm
    have k3 := h3.symm
    have k4 := hab.symm
    have k5 := hac.symm
    have k6 := hbc.symm
    rcases h d (List.mem_cons_self ..) with rfl | rfl | rfl <;> simp [rep1, hab, hac, hbc, k2, k3, k4, k5, k6]
theorem tl_len : ∀ u : List Nat, (tl u).length = 4 * u.length
  | [] => rfl
  | d :: u => by
    show (d :: 46 :: 46 :: 46 :: tl u).length = 4 * (u.length + 1)
    simp only [List.length_cons, tl_len u]; omega
end
section
open PySem PySem.W PyProof.Rows PySem.Calls
theorem strs_dat : ∀ {vs : List Value} {us : List Str}, StrsAre vs us → DatAll [] vs (us.map Dat.str)
  | vs, [], h => by rw [h.nil_inv]; exact .nil
  | vs, u :: us, h => by
    obtain ⟨t, r, rfl, h1⟩ := StrsAre.cons_inv h
    exact .cons (.str u t) (strs_dat h1)
/-- every sign of a text is one -/
def SOk (us : List Str) : Prop := ∀ u ∈ us, PyData.strOk u = true
theorem sok_dat {us : List Str} (h : SOk us) : ∀ d ∈ us.map Dat.str, kqdOk 8 d = true := by
  intro d hd
  obtain ⟨x, hx, rfl⟩ := List.mem_map.mp hd
  exact h x hx
theorem dat_inj {us vs : List Str} : us.map Dat.str = vs.map Dat.str ↔ us = vs := by
  constructor
  · intro h
    induction us generalizing vs with
    | nil => cases vs with
      | nil => rfl
      | cons v vs => cases h
    | cons u us ih => cases vs with
      | nil => cases h
      | cons v vs =>
        rw [List.map_cons, List.map_cons, List.cons.injEq, Dat.str.injEq] at h
        rw [h.1, ih h.2]
  · rintro rfl; rfl
section
variable {prog : Program} {w : World} {A : Around} {E : Value → Shared → Prop} {s : Shared} {h₀ : Heap} {L a b : Addr} {news : List (Addr × Obj)} {xs ys : List Value} {us vs : List Str} {ka kb : Nat} {Q : Value → Shared → Prop}
theorem ne_strs (N : News h₀ L s.heap news) (ma : (a, listOf xs.toArray ka) ∈ news) (mb : (b, listOf ys.toArray kb) ∈ news) (hx : StrsAre xs us) (hy : StrsAre ys vs) (ou : SOk us) (ov : SOk vs) (hu : A.units + 64 < cLine)
    (h : Q (.bool (!decide (us = vs))) s) : wpAny (model prog w) A (compareOp .NotEq (.ref a) (.ref b)) Q E s := by
  refine kqd_ne N ma rfl rfl (strs_dat hx) (fun _ h => nomatch h) mb rfl rfl (strs_dat hy) (fun _ h => nomatch h) (sok_dat ou) (sok_dat ov) hu ?_
  have e : ∀ i : Decidable (us.map Dat.str = vs.map Dat.str), @decide (us.map Dat.str = vs.map Dat.str) i = decide (us = vs) := by
    intro i
    by_cases q : us = vs
    · rw [decide_eq_true q, decide_eq_true (dat_inj.mpr q)]
    · rw [decide_eq_false q, decide_eq_false (fun x => q (dat_inj.mp x))]
  rw [e]; exact h
theorem eq_strs (N : News h₀ L s.heap news) (ma : (a, listOf xs.toArray ka) ∈ news) (mb : (b, listOf ys.toArray kb) ∈ news) (hx : StrsAre xs us) (hy : StrsAre ys vs) (ou : SOk us) (ov : SOk vs) (hu : A.units + 64 < cLine)
    (h : Q (.bool (decide (us = vs))) s) : wpAny (model prog w) A (compareOp .Eq (.ref a) (.ref b)) Q E s := by
  refine kqd_eq N ma rfl rfl (strs_dat hx) (fun _ h => nomatch h) mb rfl rfl (strs_dat hy) (fun _ h => nomatch h) (sok_dat ou) (sok_dat ov) hu ?_
  have e : ∀ i : Decidable (us.map Dat.str = vs.map Dat.str), @decide (us.map Dat.str = vs.map Dat.str) i = decide (us = vs) := by
    intro i
    by_cases q : us = vs
    · rw [decide_eq_true q, decide_eq_true (dat_inj.mpr q)]
    · rw [decide_eq_false q, decide_eq_false (fun x => q (dat_inj.mp x))]
  rw [e]; exact h
end
end
section
open PySem PySem.W PyProof.Rows PySem.Calls Builtin.ObjectAttr
theorem slot_fn_ga : Slot "function" "__getattribute__" "object.__getattribute__" :=
  .of (owner := "object") (n := "__getattribute__") (by rw [typeLookup_type, builtinLookup_eq_fast]; kernel_rfl) (by decide +kernel) (by decide +kernel) (by decide +kernel)
    (by first | exact .inl (by decide +kernel) | exact .inr (by decide +kernel)) (by rw [isSubtype_type]; kernel_rfl)
theorem entry_oga : entryFor table "object.__getattribute__" = some Builtin.«object.__getattribute__» := entryFor_of_tree (by kernel_rfl)
theorem args_oga (a b : Value) : argsOk "object.__getattribute__" ⟨[a, b], []⟩ := by unfold argsOk; kernel_rfl
theorem fn_noga : typeLookup (.type "function") "__getattr__" = pure none := by rw [typeLookup_type, builtinLookup_eq_fast]; kernel_rfl
theorem fn_read' : typeLookup (.type "function") "read" = pure none := fn_read
theorem ns_one {h : Heap} {ds : Addr} {n : Nat} {w : World} {tq : Tok} {v : Value} (e : h.get? ds = some (dictOf [⟨PyData.keyHash w.params "read", .str "read" tq, v⟩] n)) :
    h.Ns ds (nsFind #[⟨PyData.keyHash w.params "read", .str "read" tq, v⟩]) :=
  ⟨_, _, _, e, rfl, fun e he => by
    rw [Array.mem_def] at he
    rw [List.mem_singleton.mp he]; exact ⟨_, _, rfl⟩, fun _ => rfl⟩
theorem code_fn {prog : Program} {w : World} {A : Around} {E : Value → Shared → Prop} {s : Shared} {f ds n : Nat} {fd : FuncData} {tq u : Tok} {v : Value} {Q : Fin → Shared → Prop}
    (hf : s.heap.get? f = some ({ cls := .type "function", dict := some ds, data := .func fd } : Obj)) (hd : s.heap.get? ds = some (dictOf [⟨PyData.keyHash w.params "read", .str "read" tq, v⟩] n)) (h : Q (.done (.ret v)) s) :
    wpAny (model prog w) A (Builtin.«object.__getattribute__» ⟨[.ref f, .str "read" u], []⟩) Q E s := by
  obtain ⟨hp, g, d, tk, os⟩ := s
  have hT : (⟨hp, g, d, tk, os⟩ : Shared).TypeIs (.ref f) "function" := ⟨_, hf, rfl⟩
  have f1 := fn_read'
  unfold Builtin.«object.__getattribute__»
  repeat (any_goals (first | assumption | wp_step))
theorem getattr_fn {prog : Program} {w : World} {A : Around} {E : Value → Shared → Prop} {s : Shared} {f ds n : Nat} {fd : FuncData} {tq : Tok} {v : Value} {ex : Bool} {Q : Value → Shared → Prop}
    (hf : s.heap.get? f = some ({ cls := .type "function", dict := some ds, data := .func fd } : Obj)) (hd : s.heap.get? ds = some (dictOf [⟨PyData.keyHash w.params "read", .str "read" tq, v⟩] n)) (ho : handedOut v = pure v) (h : Q v { s with toks := s.toks + 1 }) :
    wpAny (model prog w) A (getAttr (.ref f) "read" ex) Q E s := by
  obtain ⟨hp, g, d, tk, os⟩ := s
  have hT : ∀ tk', (⟨hp, g, d, tk', os⟩ : Shared).TypeIs (.ref f) "function" := fun _ => ⟨_, hf, rfl⟩
  have f1 := fn_read'
  have f3 := slot_fn_ga.lookup
  have f4 := slot_fn_ga.bind (.ref f)
  have f5 := fn_noga
  unfold getAttr getAttrBy
  repeat (any_goals (first | assumption | exact hT _ | ((with_reducible show wpAny _ _ (call (Value.builtin "object.__getattribute__") _ _) _ _ _); refine wpAny_call_entry slot_fn_ga (hT _) entry_oga (code_fn hf hd ?_) (args_oga _ _)) | wp_step))
  have e : (ex && onTheHeap (Value.builtin "object.__getattribute__")) = false := by cases ex <;> rfl
  rw [e, if_neg (by decide)]
  unfold boundAndCalled
  rw [f4, pure_bind]
  show wpAny _ _ (call (Value.builtin "object.__getattribute__") [Value.ref f, Value.str "read" tk]) _ _ _
  refine wpAny_call_entry slot_fn_ga (hT _) entry_oga (code_fn hf hd ⟨v, rfl, ?_⟩) (args_oga _ _)
  show wpAny _ _ (handedOut v) _ _ _
  rw [ho]
  exact wpAny_pure h
theorem canon_oga : (Manifest.canonical "object.__getattribute__" != "object.__getattribute__") = false := by decide +kernel
theorem getmethod_fn {prog : Program} {w : World} {A : Around} {E : Value → Shared → Prop} {s : Shared} {f ds n : Nat} {fd : FuncData} {tq : Tok} {v : Value} {pl : Sem Bool} {Q : Value × List Value → Shared → Prop}
    (hf : s.heap.get? f = some ({ cls := .type "function", dict := some ds, data := .func fd } : Obj)) (hd : s.heap.get? ds = some (dictOf [⟨PyData.keyHash w.params "read", .str "read" tq, v⟩] n)) (ho : handedOut v = pure v) (h : Q (v, []) { s with toks := s.toks + 1 }) :
    wpAny (model prog w) A (getMethod (.ref f) "read" pl) Q E s := by
  have hT : s.TypeIs (.ref f) "function" := ⟨_, hf, rfl⟩
  unfold getMethod
  refine wpAny_bind (wpAny_specialOf (name := Str.ofString "__getattribute__") hT slot_fn_ga.lookup ?_)
  show wpAny _ _ (if (Manifest.canonical "object.__getattribute__" != "object.__getattribute__") = true then _ else _) _ _ _
  rw [if_neg (by rw [canon_oga]; decide)]
  refine wpAny_bind (wpAny_specialOf (name := Str.ofString "__getattr__") hT fn_noga ?_)
  show wpAny _ _ (if (none : Option Value).isSome = true then _ else _) _ _ _
  rw [if_neg (by decide)]
  refine wpAny_bind (wpAny_specialOf (name := Str.ofString "read") hT fn_read' ?_)
  exact wpAny_bind (getattr_fn hf hd ho (wpAny_pure h))
end
section
open PySem PySem.W PyProof.Rows PySem.Calls
theorem slot_cn : Slot "callable_iterator" "__next__" "callable_iterator.__next__" :=
  .of (owner := "callable_iterator") (n := "__next__") (by rw [typeLookup_type, builtinLookup_eq_fast]; kernel_rfl) (by decide +kernel) (by decide +kernel) (by decide +kernel)
    (by first | exact .inl (by decide +kernel) | exact .inr (by decide +kernel)) (by rw [isSubtype_type]; kernel_rfl)
theorem slot_ci : Slot "callable_iterator" "__iter__" "callable_iterator.__iter__" :=
  .of (owner := "callable_iterator") (n := "__iter__") (by rw [typeLookup_type, builtinLookup_eq_fast]; kernel_rfl) (by decide +kernel) (by decide +kernel) (by decide +kernel)
    (by first | exact .inl (by decide +kernel) | exact .inr (by decide +kernel)) (by rw [isSubtype_type]; kernel_rfl)
theorem entry_cn : entryFor table "callable_iterator.__next__" = some Builtin.«callable_iterator.__next__» := entryFor_of_tree (by kernel_rfl)
theorem entry_ci : entryFor table "callable_iterator.__iter__" = some Builtin.«dict_keyiterator.__iter__» := entryFor_alias (id' := "dict_keyiterator.__iter__") (by kernel_rfl) (by first | rfl | decide +kernel) (by decide +kernel) (by kernel_rfl)
theorem args_cn (a : Value) : argsOk "callable_iterator.__next__" ⟨[a], []⟩ := by unfold argsOk; kernel_rfl
theorem args_ci (a : Value) : argsOk "callable_iterator.__iter__" ⟨[a], []⟩ := by unfold argsOk; kernel_rfl
theorem entry_iter2 : entryFor table "iter" = some Builtin.«iter» := entryFor_of_tree (by kernel_rfl)
theorem args_iter2 (a b : Value) : argsOk "iter" ⟨[a, b], []⟩ := by unfold argsOk; kernel_rfl
/-- an iterator over what a method gives, up to the empty text -/
def citObj (q : Addr) (t : Tok) : Obj := { cls := .type "callable_iterator", data := .fields #[.ref q, .str (Str.ofString "") t, .bool false] }
section
variable {prog : Program} {w : World} {A : Around} {E : Value → Shared → Prop} {s : Shared} {it q f x : Addr} {t : Tok}
theorem pyIter_cit {Q : Value → Shared → Prop} (hit : s.heap.get? it = some (citObj q t)) (h : Q (.ref it) s) : wpAny (model prog w) A (pyIter (.ref it)) Q E s := by
  have hT : s.TypeIs (.ref it) "callable_iterator" := ⟨_, hit, rfl⟩
  refine wpAny_pyIter_slot hT slot_ci (wpAny_call_entry slot_ci hT entry_ci ?_ (args_ci _))
  show wpAny _ _ (ret (.ref it)) _ _ s
  exact wpAny_pure ⟨_, rfl, "callable_iterator", _, hT, slot_cn.lookup, h⟩
theorem call_borrowed {f : Value} {pos : List Value} {Q : Value → Shared → Prop}
    (hc : codeAny (model prog w) A (.call f ⟨pos, []⟩) (fun r s' => match r with | .ok (.ret v) => Q v s' | .ok _ => False | .error e => E e s') s) :
    wpAny (model prog w) A (callBorrowed f pos) Q E s := fun Γ p hΓ => by
  unfold callBorrowed
  rw [Sem.wp_call]
  refine wpCode_mono (fun r s' h => ?_) (hc _ p rfl (hΓ.enter _ none p (by intro x; cases x)))
  match r, h with
  | .ok (.ret v), h => exact h
  | .error e, h => exact h
theorem borrows {o : Obj} {fd : FuncData} {self : Value} {Q : Bool → Shared → Prop} (hq : s.heap.get? q = some (methodObj (.ref f) self)) (hf : s.heap.get? f = some o) (hd : o.data = .func fd) (h : Q true s) :
    wpAny (model prog w) A (borrowsExactly (.ref q)) Q E s := by
  unfold borrowsExactly
  refine wpAny_bind (wpAny_load hq ?_)
  dsimp only
  show wpAny _ _ (if ((Value.type "method" == Value.type "method") = true) then _ else _) _ _ _
  rw [if_pos (by decide)]
  show wpAny _ _ (load f >>= _) _ _ _
  refine wpAny_bind (wpAny_load hf ?_)
  rw [hd]
  exact wpAny_pure h
theorem next_cit {o : Obj} {fd : FuncData} {Q : Option Value → Shared → Prop} (hh : A.handled = none) (hit : s.heap.get? it = some (citObj q t)) (hq : s.heap.get? q = some (methodObj (.ref f) (.ref x))) (hf : s.heap.get? f = some o) (hd : o.data = .func fd)
    (h : codeAny (model prog w) A.in1 (.call (.ref f) ⟨[.ref x], []⟩) (fun r s' => match r with
      | .ok (.ret v) => ∃ y u, v = .str y u ∧ s'.heap.get? it = some (citObj q t) ∧ (y ≠ Str.ofString "" → Q (some (.str y u)) s') ∧
          (y = Str.ofString "" → s'.heap.get? q = some (methodObj (.ref f) (.ref x)) ∧ s'.heap.get? f = some o ∧ ∀ h', Heap.ExtBut it s'.heap h' → Q none { s' with heap := h' })
      | .ok _ => False
      | .error _ => False) s) :
    wpAny (model prog w) A (pyNext (.ref it)) Q E s := by
  have hT : s.TypeIs (.ref it) "callable_iterator" := ⟨_, hit, rfl⟩
  unfold pyNext
  refine wpAny_bind (wpAny_attempt (wpAny_callSpecial?_slot (name := Str.ofString "__next__") hT slot_cn (wpAny_call_entry slot_cn hT entry_cn ?_ (args_cn _))))
  unfold Builtin.«callable_iterator.__next__»
  refine wpAny_bind (wpAny_of_eq (a := (Value.ref it, [])) rfl ?_)
  dsimp only
  refine wpAny_bind (wpAny_field hit rfl (x := .bool false) rfl ?_)
  show wpAny _ _ (if ((Value.bool false == Value.bool true) = true) then _ else _) _ _ _
  rw [if_neg (by decide)]
  refine wpAny_bind (wpAny_field hit rfl (x := .ref q) rfl ?_)
  refine wpAny_bind (wpAny_attempt ?_)
  unfold callOutOfASlot
  refine wpAny_bind (borrows hq hf hd ?_)
  rw [if_pos rfl]
  refine call_borrowed (codeAny_mono (method_call hq h) fun r s' hr => ?_)
  match r, hr with
  | .ok (.ret v), hr =>
    obtain ⟨y, u, rfl, hit', hne, he⟩ := hr
    dsimp only
    refine wpAny_bind (wpAny_field hit' rfl (x := .bool false) rfl ?_)
    show wpAny _ _ (if ((Value.bool false == Value.bool true) = true) then _ else _) _ _ _
    rw [if_neg (by decide)]
    refine wpAny_bind (wpAny_field hit' rfl (x := .str (Str.ofString "") t) rfl ?_)
    refine wpAny_bind (wpAny_holding (wpAny_eqBool_str ?_))
    by_cases hy : Str.ofString "" = y
    · rw [decide_eq_true hy]
      show wpAny _ _ (if (!true) = true then _ else _) _ _ _
      rw [if_neg (by decide)]
      obtain ⟨hq', hf', hQ⟩ := he hy.symm
      refine wpAny_bind (wpAny_rule ?_)
      refine wpAny_bind ?_
      show wpAny _ _ (field (.ref it) 0 >>= _) _ _ _
      refine wpAny_bind (wpAny_field hit' rfl (x := .ref q) rfl ?_)
      unfold slotLetsGo
      refine wpAny_bind ?_
      refine wpAny_bind (borrows hq' hf' hd ?_)
      rw [if_pos rfl]
      refine wpAny_pure ?_
      refine wpAny_bind (wpAny_setField_rec hit' (by simp) fun h1 i1 b1 => ?_)
      refine wpAny_bind (wpAny_setField_rec i1 (by simp) fun h2 i2 b2 => ?_)
      refine wpAny_setField_rec i2 (by simp) fun h3 i3 b3 => ?_
      show wpAny _ _ (newExc (.type "StopIteration") [] >>= _) _ _ _
      refine wpAny_bind ?_
      simp only [newExc, newTuple]
      refine wpAny_bind (wpAny_newObj_type ?_ (by size_fits))
      refine wpAny_bind (m := firstArgMember _ _) (wpAny_of_eq (a := Value.none) (by first | rfl | (simp only [firstArgMember]; rfl)) ?_)
      refine wpAny_newObj_type ?_ (by size_fits)
      simp only [raiseNew]
      refine wpAny_bind (wpAny_handled ?_)
      rw [show A.in1.handled = none from hh]
      refine wpAny_bind (wpAny_pure (wpAny_throw ?_))
      refine wpAny_bind (wpAny_isInstance (T := "StopIteration") (b := true) ⟨_, Heap.get?_push_size _ rfl, rfl⟩ isSubtype_stop ?_)
      refine wpAny_pure (hQ _ ?_)
      have hb : Heap.SameBut it s'.heap h3 := ⟨?_, fun b hb => ((b3.2 b hb).trans (b2.2 b hb)).trans (b1.2 b hb)⟩
      exact ((hb.extBut).push _).push _
      exact b3.1.trans (b2.1.trans b1.1)
    · rw [decide_eq_false hy]
      show wpAny _ _ (if (!false) = true then _ else _) _ _ _
      rw [if_pos (by decide)]
      exact wpAny_pure ⟨_, rfl, wpAny_pure (hne fun e => hy e.symm)⟩
theorem meth_call : typeLookup (.type "method") "__call__" = pure (some (.builtin "method.__call__")) := by rw [typeLookup_type, builtinLookup_eq_fast]; kernel_rfl
theorem kind_iter2 : builtinKind "iter" = none := by decide +kernel
theorem plain_iter2 : plainId "iter" = true := by decide +kernel
theorem call_iter2 {fv : Value} {self : Value} {h₀ : Heap} {L : Addr} {m : Str → Option Value} {news : List (Addr × Obj)} {Q : Value → Shared → Prop} (F : Fr h₀ L s.heap m) (N : News h₀ L s.heap news) (hq : (q, methodObj fv self) ∈ news)
    (h : ∀ I h', Fr h₀ L h' m → News h₀ L h' ((I, citObj q t) :: news) → (∀ p ∈ news, p.1 < I) → Q (.ref I) { s with heap := h' }) :
    wpAny (model prog w) A (call (.builtin "iter") [.ref q, .str (Str.ofString "") t]) Q E s := by
  have hT : s.TypeIs (.ref q) "method" := ⟨_, (N _ hq).1, rfl⟩
  refine Calls.call_function_entry kind_iter2 plain_iter2 entry_iter2 (args_iter2 _ _) ?_
  unfold Builtin.«iter»
  refine wpAny_bind (wpAny_of_eq (a := [.ref q, .str (Str.ofString "") t]) (by first | rfl | kernel_rfl) ?_)
  dsimp only
  refine wpAny_bind (wpAny_specialOf (name := Str.ofString "__call__") hT meth_call ?_)
  show wpAny _ _ (if (some (Value.builtin "method.__call__")).isNone = true then _ else _) _ _ _
  rw [if_neg (by decide)]
  refine wpAny_bind (wpAny_rule (wpAny_bind ?_))
  show wpAny _ _ (newObj _ _) _ _ _
  refine wpAny_newObj_type ?_ (by size_fits)
  exact wpAny_pure ⟨_, rfl, h s.heap.objs.size _ (F.push _) (N.push F _) fun p hp => Heap.lt_size (N p hp).1⟩
end
section
variable {prog : Program} {w : World} {A : Around} {E : Value → Shared → Prop} {s : Shared} {env : Env}
/-- a for over an iterator, by a word that holds between the turns and a number that falls -/
def NxFlow (Q : Flow → Shared → Prop) (J : Nat → Shared → Prop) (k : Nat) (f : Flow) (s₃ : Shared) : Prop := match f with
  | .brk => Q .next s₃
  | .ret v => Q (.ret v) s₃
  | _ => ∃ k', k' < k ∧ J k' s₃
def NxTurn (prog : Program) (w : World) (A : Around) (E : Value → Shared → Prop) (env : Env) (v : Str) (body : List Stmt) (Q : Flow → Shared → Prop) (J : Nat → Shared → Prop) (k : Nat) (r : Option Value) (s₁ : Shared) : Prop := match r with
  | none => Q .next s₁
  | some y => wpAny (model prog w) A (storeName env v y) (fun _ s₂ => wpAny (model prog w) A (execs body env) (NxFlow Q J k) E s₂) E s₁
theorem for_nx {v : Str} {px pos : Pos} {iter : Expr} {body : List Stmt} {Q : Flow → Shared → Prop} (J : Nat → Shared → Prop) {I : Addr}
    (step : ∀ k s', J k s' → wpAny (model prog w) A (pyNext (.ref I)) (NxTurn prog w A E env v body Q J k) E s')
    (h : wpAny (model prog w) A (eval iter env) (fun xv s₁ => wpAny (model prog w) A (pyIter xv) (fun it s₂ => it = .ref I ∧ ∃ k, J k s₂) E s₁) E s)
    (hs : ∀ x, foldedSetIterable iter env x = pure x := by intro _; rfl) (hE : PassesOwn (model prog w) A env E := by passes_own) :
    wpAny (model prog w) A (exec (.For (.Name v px) iter body [] pos) env) Q E s := by
  refine wpAny_For (wpAny_mono h (fun xv s₁ h₁ => wpAny_mono h₁ (fun it s₂ h₂ => ?_) fun _ _ z => z) fun _ _ z => z) hs
  obtain ⟨rfl, k₀, h₂⟩ := h₂
  refine codeAny_forLoop (R := fun r s' => match r with | .ok f => Q f s' | .error e => cameBackBy (model prog w) A env E e s') J ?_ k₀ h₂
  intro k s' hk
  refine wpAny_passesOwn hE (wpAny_mono (step k s' hk) (fun r s₁ hr => ?_) fun _ _ z => z)
  cases r with
  | none => exact wpAny_execs_nil hr
  | some y =>
    refine wpAny_passesOwn hE (wpAny_assign_Name (wpAny_mono hr (fun _ s₂ h₂ => ?_) fun _ _ z => z))
    refine wpAny_passesOwn hE (wpAny_mono h₂ (fun f s₃ h₃ => ?_) fun _ _ z => z)
    cases f with
    | next => obtain ⟨k', h1, h2⟩ := h₃; exact ⟨k', h1, h2⟩
    | cont => obtain ⟨k', h1, h2⟩ := h₃; exact ⟨k', h1, h2⟩
    | brk => exact h₃
    | ret _ => exact h₃
end
end
section
open PySem PySem.W PyProof.Rows PySem.Calls
theorem newsSub {h₀ h : Heap} {L : Addr} {l l' : List (Addr × Obj)} (N : News h₀ L h l') (hs : ∀ q ∈ l, q ∈ l') : News h₀ L h l := fun q hq => N q (hs q hq)
theorem newsNeed {h₀ h : Heap} {L : Addr} {need rest : List (Addr × Obj)} (N : News h₀ L h rest) (hn : ∀ p ∈ need, p ∈ rest) : News h₀ L h (need ++ rest) := fun p hp => N p (by
  rcases List.mem_append.mp hp with hp | hp
  · exact hn p hp
  · exact hp)
theorem newsHead {h₀ h : Heap} {L : Addr} {a : Addr} {o : Obj} {l : List (Addr × Obj)} (N : News h₀ L h ((a, o) :: l)) : ∃ o', o' = o ∧ News h₀ L h ((a, o') :: l) := ⟨o, rfl, N⟩
theorem news_lt {h₀ h : Heap} {L : Addr} {l : List (Addr × Obj)} (N : News h₀ L h l) : ∀ q ∈ l, q.1 < h.objs.size := fun q hq => Heap.lt_size (N q hq).1
theorem adr_lt {I : Nat} {l l' : List (Addr × Obj)} (h' : ∀ q ∈ l', q.1 < I) (h : l.map (·.1) = l'.map (·.1)) : ∀ q ∈ l, q.1 < I := fun q hq => by
  have : q.1 ∈ l'.map (·.1) := h ▸ List.mem_map_of_mem hq
  obtain ⟨q', hq', e⟩ := List.mem_map.mp this
  rw [← e]; exact h' q' hq'
theorem offCons {a b : Addr} {o : Obj} {l : List (Addr × Obj)} (h : a ≠ b) (t : ∀ q ∈ l, q.1 ≠ b) : ∀ q ∈ (a, o) :: l, q.1 ≠ b := List.forall_mem_cons.mpr ⟨h, t⟩
theorem off_adr {I : Addr} {l l' : List (Addr × Obj)} (h : ∀ q ∈ l, q.1 ≠ I) (e : l'.map (·.1) = l.map (·.1)) : ∀ q ∈ l', q.1 ≠ I := fun q hq => by
  have : q.1 ∈ l.map (·.1) := e ▸ List.mem_map_of_mem hq
  obtain ⟨q', hq', e'⟩ := List.mem_map.mp this
  rw [← e']; exact h q' hq'
theorem allLt_get {d : Nat} : ∀ {l : List (Addr × Obj)}, AllLt d l → ∀ q ∈ l, q.1 < d
  | [], _, _, hq => nomatch hq
  | p :: r, h, q, hq => by
    rcases List.mem_cons.mp hq with rfl | hq
    · exact h.1
    · exact allLt_get h.2 q hq
theorem ne_of_obj {h₀ h : Heap} {L a b : Addr} {o o' : Obj} {l : List (Addr × Obj)} (N : News h₀ L h l) (ha : (a, o) ∈ l) (hb : (b, o') ∈ l) (ne : o ≠ o') : a ≠ b := fun e => ne (Option.some.inj (by
  have h1 := (N _ ha).1
  have h2 := (N _ hb).1
  dsimp only at h1 h2
  rw [e] at h1
  exact h1.symm.trans h2))
theorem str_app (u : List Nat) (c : Nat) : S u ++ (⟨#[c]⟩ : Str) = S (u ++ [c]) := (StrLaws.mk_of_toList (by simp)).symm
end
section
open PySem PySem.W PyProof.Rows PySem.Calls
/-- the table of the code within _law_apart -/
def tab96 : Option (Nat × Obj) → List (Addr × Obj)
  | none => [(96, tabObj #[])]
  | some (c, o) => [(96, tabObj #[rawInt 113, rawInt 44, .ref c]), (c, o)]
/-- the words that the longer one holds and the shorter one does not, in rounds -/
def apartGo (x y ls : List Nat) : Nat → List (List Nat) → List (List Nat)
  | 0, _ => []
  | n + 1, ws => if (ws.filter fun u => !u.isSublist x).filter (fun u => u.isSublist y) = [] then apartGo x y ls n ((ws.filter fun u => u.isSublist x).flatMap fun u => ls.map fun d => u ++ [d]) else (ws.filter fun u => !u.isSublist x).filter fun u => u.isSublist y
theorem tab96_low {T : Option (Nat × Obj)} (h : ∀ c o, T = some (c, o) → 96 < c) : ∀ q ∈ tab96 T, 96 ≤ q.1 := by
  cases T with
  | none => intro q hq; rw [List.mem_singleton.mp hq]; exact Nat.le_refl _
  | some p =>
    obtain ⟨c, o⟩ := p
    exact List.forall_mem_cons.mpr ⟨Nat.le_refl 96, List.forall_mem_cons.mpr ⟨Nat.le_of_lt (h c o rfl), List.forall_mem_nil _⟩⟩
def ok96 : Option (Nat × Obj) → Prop
  | none => True
  | some (_, o) => codeOk o (Str.ofString "_law_apart.<locals>.<lambda>")
/-- the table as it was, or filled since -/
def Okay96 (T9 : Option (Nat × Obj)) (news : List (Addr × Obj)) (T : Option (Nat × Obj)) : Prop :=
  T = T9 ∨ ∃ c o, T = some (c, o) ∧ AllLt c news ∧ 96 < c ∧ ok96 (some (c, o))
theorem news_rot7 {h₀ h : Heap} {L : Addr} {c i d e l x p : Addr × Obj} {r : List (Addr × Obj)} (N : News h₀ L h (c :: i :: d :: e :: l :: x :: p :: r)) : News h₀ L h (l :: x :: p :: c :: i :: d :: e :: r) := news_sub0 N (by
  (repeat (refine List.forall_mem_cons.mpr ⟨by k_mem, ?_⟩)); (intro q hq); (repeat' (first | exact hq | refine List.Mem.tail _ ?_)))
theorem news_rot7' {h₀ h : Heap} {L : Addr} {c i d e l x p : Addr × Obj} {r : List (Addr × Obj)} (N : News h₀ L h (l :: x :: p :: c :: i :: d :: e :: r)) : News h₀ L h (c :: i :: d :: e :: l :: x :: p :: r) := news_sub0 N (by
  (repeat (refine List.forall_mem_cons.mpr ⟨by k_mem, ?_⟩)); (intro q hq); (repeat' (first | exact hq | refine List.Mem.tail _ ?_)))
theorem strs_mem : ∀ {vs : List Value} {ws : List (List Nat)}, StrsAre vs (ws.map S) → ∀ {v : Value}, v ∈ vs → ∃ u t, v = .str (S u) t ∧ u ∈ ws
  | vs, [], h, v, hv => by rw [h.nil_inv] at hv; cases hv
  | vs, u :: ws, h, v, hv => by
    obtain ⟨t, r, rfl, h1⟩ := StrsAre.cons_inv h
    rcases List.mem_cons.mp hv with rfl | hv
    · exact ⟨u, t, rfl, .head _⟩
    · obtain ⟨u', t', e, hu⟩ := strs_mem h1 hv
      exact ⟨u', t', e, .tail _ hu⟩
/-- a word that lies within the other, in order -/
def subV (x : List Nat) : Value → Bool
  | .str s _ => s.cps.toList.isSublist x
  | _ => false
theorem strs_filter {p : Value → Bool} {q : List Nat → Bool} (e : ∀ u t, p (.str (S u) t) = q u) : ∀ {vs : List Value} {ws : List (List Nat)}, StrsAre vs (ws.map S) → StrsAre (vs.filter p) ((ws.filter q).map S)
  | vs, [], h => by rw [h.nil_inv]; exact .nil
  | vs, u :: ws, h => by
    obtain ⟨t, r, rfl, h1⟩ := StrsAre.cons_inv h
    have ih := strs_filter e h1
    rw [List.filter_cons, List.filter_cons, e]
    cases q u
    · simpa using ih
    · simpa using StrsAre.cons _ t ih
theorem sok_sub {ls : List Nat} {ws : List (List Nat)} (hls : ∀ d ∈ ls, d < 0x110000) (h : ∀ u ∈ ws, ∀ d ∈ u, d ∈ ls) : SOk (ws.map S) := by
  intro u hu
  obtain ⟨v, hv, rfl⟩ := List.mem_map.mp hu
  unfold PyData.strOk
  rw [Array.all_eq_true']
  intro d hd
  exact decide_eq_true (hls d (h v hv d (by simpa using hd)))
theorem news_rot5 {h₀ h : Heap} {L : Addr} {c i l x p : Addr × Obj} {r : List (Addr × Obj)} (N : News h₀ L h (c :: i :: l :: x :: p :: r)) : News h₀ L h (l :: x :: p :: c :: i :: r) := news_sub0 N (by
  (repeat (refine List.forall_mem_cons.mpr ⟨by k_mem, ?_⟩)); (intro q hq); (repeat' (first | exact hq | refine List.Mem.tail _ ?_)))
theorem news_rot5' {h₀ h : Heap} {L : Addr} {c i l x p : Addr × Obj} {r : List (Addr × Obj)} (N : News h₀ L h (l :: x :: p :: c :: i :: r)) : News h₀ L h (c :: i :: l :: x :: p :: r) := news_sub0 N (by
  (repeat (refine List.forall_mem_cons.mpr ⟨by k_mem, ?_⟩)); (intro q hq); (repeat' (first | exact hq | refine List.Mem.tail _ ?_)))
theorem strs_get : ∀ {vs : List Value} {ws : List (List Nat)}, StrsAre vs (ws.map S) → ∀ {j : Nat} {v : Value}, vs[j]? = some v → ∃ u t, v = .str (S u) t ∧ ws[j]? = some u
  | vs, [], h, j, v, hv => by rw [h.nil_inv] at hv; simp at hv
  | vs, u :: ws, h, j, v, hv => by
    obtain ⟨t, r, rfl, h1⟩ := StrsAre.cons_inv h
    cases j with
    | zero => exact ⟨u, t, by simpa using hv.symm, rfl⟩
    | succ j => exact strs_get h1 (by simpa using hv)
/-- the words one sign longer -/
def grow (ls : List Nat) (ws : List (List Nat)) : List (List Nat) := ws.flatMap fun u => ls.map fun d => u ++ [d]
theorem grow_step {ls u : List Nat} {ws : List (List Nat)} {j : Nat} (h : ws[j]? = some u) : grow ls (ws.take (j + 1)) = grow ls (ws.take j) ++ ls.map fun d => u ++ [d] := by
  unfold grow
  rw [List.take_add_one, h, List.flatMap_append]; simp
theorem grow_len {ls : List Nat} (h3 : ls.length = 3) (ws : List (List Nat)) : (grow ls ws).length = 3 * ws.length := by
  unfold grow
  induction ws with
  | nil => rfl
  | cons u ws ih => rw [List.flatMap_cons, List.length_append, ih, List.length_map, List.length_cons, h3]; omega
theorem ft_step {p : Value → Bool} {l : List Value} {j : Nat} {v : Value} (h : l[j]? = some v) : (l.take (j + 1)).filter p = (l.take j).filter p ++ if p v = true then [v] else [] := by
  rw [List.take_add_one, h, List.filter_append]
  cases hp : p v <;> simp [hp]
/-- three letters -/
def Let3 (ls : List Nat) : Prop := ∃ a b c, ls = [a, b, c] ∧ a ≠ b ∧ a ≠ c ∧ b ≠ c ∧ a ≠ 46 ∧ b ≠ 46 ∧ c ≠ 46
theorem dots_ls (w : World) {ls u : List Nat} (t1 t2 : Tok) (h3 : Let3 ls) (hu : ∀ d ∈ u, d ∈ ls) (hw : u.length < 20) :
    Ctr w 4 94 [.str (S u) t1, .str (S ls) t2] (fun v => ∃ t, v = .str (S (46 :: 46 :: 46 :: tl u)) t) := by
  obtain ⟨a, b, c, rfl, h1, h2, h3, h4, h5, h6⟩ := h3
  have e : S (46 :: 46 :: 46 :: tl u) = Str.ofString "..." ++ S (rep1 c (rep1 b (rep1 a u))) := by
    rw [rep3 a b c h1 h2 h3 h4 h5 h6 u (fun d hd => by simpa using hu d hd), dots_eq]; exact (StrLaws.mk_of_toList (by simp [Str.cps_append])).symm
  rw [e]
  exact dots_ok w u a b c t1 t2 hw
theorem em_ls (w : World) {ls u x : List Nat} (t1 t2 : Tok) (h3 : Let3 ls) (hu : ∀ d ∈ u, d ∈ ls) (hw : u.length < 20) (hx : (S x).length < 8) :
    Ctr w 2 21 [.str (S (46 :: 46 :: 46 :: tl u)) t1, .str (S x) t2] (fun v => v = .bool (u.isSublist x)) := by
  have h46 : 46 ∉ u := by
    intro h
    have := hu _ h
    obtain ⟨a, b, c, rfl, h1, h2, h3, h4, h5, h6⟩ := h3
    simp at this
    omega
  refine em_ok w u _ (S x) t1 t2 (dot_split u h46).1 (dot_split u h46).2 ?_ (by omega)
  show (46 :: 46 :: 46 :: tl u).length < 1000
  simp only [List.length_cons, tl_len]; omega
section
theorem apart_ok (w : World) (x y : List Nat) (ls : List Nat) (t1 t2 t3 : Tok) (news : List (Addr × Obj)) (c1 c2 : Nat) (o1 o2 : Obj) (T9 : Option (Nat × Obj)) (hok : ok79 (some (c1, o1, c2, o2))) (hlow0 : ∀ q ∈ news, 96 < q.1) (ht9 : ∀ c o, T9 = some (c, o) → 96 < c) (hok9 : ok96 T9) (hc0 : 96 < c1 ∧ 96 < c2) (h3 : Let3 ls) (hls : ∀ d ∈ ls, d < 0x110000) (hx : (S x).length < 8) (hy : (S y).length < 8) :
    CtrN w 20 99 [.str (S x) t1, .str (S y) t2, .str (S ls) t3] (tab79 (some (c1, o1, c2, o2)) ++ (tab96 T9 ++ news)) (fun r n' => ∃ (D k : Nat) (vs : List Value) (T : Option (Nat × Obj)), r = .ref D ∧ n' = (D, listOf vs.toArray k) :: (tab79 (some (c1, o1, c2, o2)) ++ (tab96 T ++ news)) ∧
      StrsAre vs ((apartGo x y ls ((S y).length + 1) [[]]).map S) ∧ Okay96 T9 news T ∧ (∀ q ∈ tab79 (some (c1, o1, c2, o2)) ++ (tab96 T ++ news), q.1 < D)) := by
  unfold CtrN
  k_fill
  intro p loose mean mg mb dp un gd cn cs ad ccd cl outer A₀ base h₀ L m s Q E X B F N T C hk hdp hun hret
  obtain ⟨tn, htn⟩ : ∃ tn, tn = tab96 T9 ++ news := ⟨_, rfl⟩
  have hlow : ∀ q ∈ tn, 79 < q.1 := by
    rw [htn]
    intro q hq
    rcases List.mem_append.mp hq with hq | hq
    · exact Nat.lt_of_lt_of_le (by decide) (tab96_low ht9 q hq)
    · exact Nat.lt_trans (by decide) (hlow0 q hq)
  have hc : 79 < c1 ∧ 79 < c2 := ⟨by omega, by omega⟩
  have o96 : OwnOff news [96] := fun q hq b hb => by rw [List.mem_singleton.mp hb]; exact Nat.ne_of_gt (hlow0 q hq)
  replace N : News h₀ L s.heap ((79, tabObj #[rawInt 94, rawInt 4, .ref c1, rawInt 98, rawInt 13, .ref c2]) :: (c1, o1) :: (c2, o2) :: tn) := by rw [htn]; exact N
  w_on
  refine wpAny_call ?_
  k_dflt (refine' code_defC (binds := [(Str.ofString "shorter", Value.str (S x) t1), (Str.ofString "longer", Value.str (S y) t2), (Str.ofString "letters", Value.str (S ls) t3)]) ?k1 ?k2 ?k3 ?k4 ?k5 ?kA ?kF ?kK ?k6 ?k7 ?k8 ?k9 ?kB ?kD ?_ ?c2 ?c3 ?c4; (case kA => exact rfl); (case kF => exact rfl); (case kK => assumption); (case k1 => k_asm); (case k2 => k_asm); (case k3 => k_asm); (case k4 => k_asm); (case k5 => k_asm); (case k6 => k_is); (case k7 => k_is); (case k8 => (show dp < recursionLimit; omega)); (case k9 => exact BindsTo.of_eq rfl); (case kB => exact rfl); (case kD => decide +kernel); (case c2 => exact rfl); (case c3 => exact rfl); (case c4 => exact rfl); k_whole; intro g' L' h' tk' cells' FG' F' N' Y' B' X' T' l1; k_cells Y'; (try simp only [List.cons_append, List.nil_append] at N'); (try dsimp only); (try k_lift B'); (try k_fold))
  have C' : CodeHd g' 83 79 := C.1.keeps FG'.keep
  have C'2 : CodeHd g' 98 96 := C.2.keeps FG'.keep
  rename_i oN oT oL oS dN dT dL dS
  replace dS := cell_some dS (v := Value.str (S x) t1) rfl
  replace dL := cell_some dL (v := Value.str (S y) t2) rfl
  replace dT := cell_some dT (v := Value.str (S ls) t3) rfl
  have l79 := ltN (l1 _ (.head _))
  have lc1 := ltN (l1 _ (.tail _ (.head _)))
  have lc2 := ltN (l1 _ (.tail _ (.tail _ (.head _))))
  dsimp only at l79 lc1 lc2
  have lN : AllLt L' tn := allLt_of fun q hq => l1 q (.tail _ (.tail _ (.tail _ hq)))
  have l96 : (96 : Nat) < L' := by
    have : ∃ o, (96, o) ∈ tn := by
      rw [htn]; cases T9 with
      | none => exact ⟨_, .head _⟩
      | some p => obtain ⟨c, o⟩ := p; exact ⟨_, .head _⟩
    obtain ⟨o, ho⟩ := this
    exact ltN (l1 _ (.tail _ (.tail _ (.tail _ ho))))
  have lN4 : AllLt (L' + 1 + 1 + 1 + 1) tn := allLt_up (show L' < L' + 1 + 1 + 1 + 1 from Nat.lt_succ_of_lt (Nat.lt_succ_of_lt (Nat.lt_succ_of_lt (Nat.lt_succ_self _)))) lN
  clear l1
  repeat' ((fail_if_success (with_reducible show wpAny _ _ (call (Value.ref _) _ _) _ _ _)); (first | (k_unfold; (try dsimp only)) | (k_end; wrow_close) | walk1 | (dsimp only; walk1) | (leave1; walk_say "STEP leave1"; try dsimp only) | fail "no step"))
  have N1 : News g' L' h' (tab79 (some (c1, o1, c2, o2)) ++ ((L' + 1 + 1 + 1 + 1, oN) :: (L' + 1 + 1 + 1, oT) :: (L' + 1 + 1, oL) :: (L' + 1, oS) :: tn)) := (show News g' L' h' ((79, _) :: (c1, o1) :: (c2, o2) :: (L' + 1 + 1 + 1 + 1, oN) :: (L' + 1 + 1 + 1, oT) :: (L' + 1 + 1, oL) :: (L' + 1, oS) :: tn) from
    news_cons (N' _ (by k_mem)) (news_cons (N' _ (by k_mem)) (news_cons (N' _ (by k_mem)) (news_cons (N' _ (by k_mem)) (news_cons (N' _ (by k_mem)) (news_cons (N' _ (by k_mem)) (news_cons (N' _ (by k_mem)) (fun q hq => N' q (by repeat' (first | exact hq | refine List.Mem.tail _ ?_))))))))))
  have hl7 : ∀ q ∈ ((L' + 1 + 1 + 1 + 1, oN) :: (L' + 1 + 1 + 1, oT) :: (L' + 1 + 1, oL) :: (L' + 1, oS) :: tn : List (Addr × Obj)), 79 < q.1 := by
    have l4 : 79 < L' + 1 + 1 + 1 + 1 := Nat.lt_succ_of_lt (Nat.lt_succ_of_lt (Nat.lt_succ_of_lt (Nat.lt_succ_of_lt (l79))))
    have l3 : 79 < L' + 1 + 1 + 1 := Nat.lt_succ_of_lt (Nat.lt_succ_of_lt (Nat.lt_succ_of_lt (l79)))
    have l2 : 79 < L' + 1 + 1 := Nat.lt_succ_of_lt (Nat.lt_succ_of_lt (l79))
    have l1 : 79 < L' + 1 := Nat.lt_succ_of_lt (l79)
    exact List.forall_mem_cons.mpr ⟨l4, List.forall_mem_cons.mpr ⟨l3, List.forall_mem_cons.mpr ⟨l2, List.forall_mem_cons.mpr ⟨l1, hlow⟩⟩⟩⟩
  k_dflt (refine' ctrN_use (lex_ok1 w (Str.ofString "") _ (by decide) _ c1 c2 o1 o2 hok hl7 hc) X' B' F' N1 T' ⟨C', C'2⟩ rfl ?dp ?un ?_)
  (case dp => show dp + 1 + 6 < recursionLimit; omega)
  (case un => show un + 3 + 8 * 6 < cLine; omega)
  rintro _ _ h2 tk2 ⟨lx, dx, pb, vi, q1, q2, q3, q4, u1, u2, ne, np, rfl, rfl, l7, l8, l9⟩ F2 N2
  clear F' N1 N'
  simp only [tab79, List.cons_append, List.nil_append] at N2 l7
  simp only [AllLt] at l7
  repeat' ((fail_if_success (with_reducible show wpAny _ _ (call (Value.ref _) _ _) _ _ _)); (first | (k_unfold; (try dsimp only)) | (k_end; wrow_close) | walk1 | (dsimp only; walk1) | (leave1; walk_say "STEP leave1"; try dsimp only) | fail "no step"))
  rename Fr g' _ _ _ => F3
  rename News g' _ _ _ => N3
  rename (_ = Data.cell (some (Value.ref lx))) => dN
  rename_i oN'
  have hne : ∀ q ∈ ((79, tabObj #[rawInt 94, rawInt 4, .ref c1, rawInt 98, rawInt 13, .ref c2]) :: (c1, o1) :: (c2, o2) :: (L' + 1 + 1 + 1 + 1, oN') :: (L' + 1 + 1 + 1, oT) :: (L' + 1 + 1, oL) :: (L' + 1, oS) :: tn : List (Addr × Obj)), q.1 ≠ pb :=
    allLt_ne (allLt_up (show dx < pb from Nat.lt_trans l8 l9) l7)
  k_dflt (refine' ctrN_use (push_ok w lx dx pb q1 q2 q3 q4 _ vi _ _ ne np [] _ (Nat.ne_of_lt l9) (Nat.ne_of_lt (Nat.lt_trans l8 l9)) hne (by decide)) X' B' F3 N3 T' ⟨C', C'2⟩ rfl ?dp ?un ?_)
  (case dp => show dp + 1 + 2 < recursionLimit; omega)
  (case un => show un + 3 + 8 * 2 < cLine; omega)
  rintro _ _ h4 tk4 ⟨rfl, rfl⟩ F4 N4
  clear F3 N3
  repeat' ((fail_if_success (with_reducible show wpAny _ _ (exec (Stmt.For _ _ _ _ _) _) _ _ _)); (first | (k_unfold; (try dsimp only)) | (k_end; wrow_close) | walk1 | (dsimp only; walk1) | (leave1; walk_say "STEP leave1"; try dsimp only) | fail "no step"))
  with_unfolding_all refine' For_invVF F4 ?k1 ?k2 ?_
  (case k1 => exact rfl)
  (case k2 => exact rfl)
  repeat' ((fail_if_success (with_reducible show wpAny _ _ (pyIter _) _ _ _)); (first | (k_unfold; (try dsimp only)) | (k_end; wrow_close) | walk1 | (dsimp only; walk1) | (leave1; walk_say "STEP leave1"; try dsimp only) | fail "no step"))
  rename Fr g' _ _ _ => F5
  rename News g' _ _ _ => N5
  rename IsRange _ _ _ _ _ _ _ _ => hr
  dsimp only at hr
  dsimp only
  generalize h4.objs.size = ra at hr ⊢
  rename_i h5 tk5 _ _ _ _
  have hLs : L' < h5.objs.size := F5.ns.lt
  refine src_range (n := (S y).length + 1) (Led := fun (c : (List Value × Nat) × Option (Nat × Obj)) => (lx, instObj 59 dx) :: (dx, dictOf (lexDict w.params q1 q2 q3 q4 (.int 1 u1) vi (.str (Str.ofString "\n\t\r ") u2) (.ref pb)) ne) :: (pb, listOf c.1.1.toArray c.1.2) ::
    (79, tabObj #[rawInt 94, rawInt 4, .ref c1, rawInt 98, rawInt 13, .ref c2]) :: (c1, o1) :: (c2, o2) :: (L' + 1 + 1 + 1 + 1, oN') :: (L' + 1 + 1 + 1, oT) :: (L' + 1 + 1, oL) :: (L' + 1, oS) :: (tab96 c.2 ++ news)) (h₀ := g') (by rfl) hr (by omega) fun o hS => ?_
  refine forSrc (σ := (List Value × Nat) × Option (Nat × Obj)) (Led := fun (c : (List Value × Nat) × Option (Nat × Obj)) => (lx, instObj 59 dx) :: (dx, dictOf (lexDict w.params q1 q2 q3 q4 (.int 1 u1) vi (.str (Str.ofString "\n\t\r ") u2) (.ref pb)) ne) :: (pb, listOf c.1.1.toArray c.1.2) ::
    (79, tabObj #[rawInt 94, rawInt 4, .ref c1, rawInt 98, rawInt 13, .ref c2]) :: (c1, o1) :: (c2, o2) :: (L' + 1 + 1 + 1 + 1, oN') :: (L' + 1 + 1 + 1, oT) :: (L' + 1 + 1, oL) :: (L' + 1, oS) :: (tab96 c.2 ++ news))
    (mu := fun _ _ => none) (kept := [])
    (P := fun i c => ∃ ws : List (List Nat), StrsAre c.1.1 (ws.map S) ∧ apartGo x y ls ((S y).length + 1 - i) ws = apartGo x y ls ((S y).length + 1) [[]] ∧ (∀ u ∈ ws, u.length = i ∧ ∀ d ∈ u, d ∈ ls) ∧ ws.length ≤ 3 ^ i ∧ (∀ q ∈ tab96 c.2 ++ news, q.1 ≠ pb) ∧ Okay96 T9 news c.2)
    (c₀ := (([Value.str (Str.ofString "") tk], np + 1), T9)) hS (F5.push _) (by rw [htn] at N5; exact newsPush N5 _) hLs ?hoff ?hm ?hP ?turn ?done
  (case hoff => exact fun q hq => Nat.ne_of_lt (Heap.lt_size (N5 q (by rw [htn]; exact hq)).1))
  (case hm => exact fun z hz => by cases hz)
  (case hP =>
    refine ⟨[[]], ?_, rfl, ?_, ?_, ?_, ?_⟩
    · exact .cons _ _ .nil
    · intro u hu; rw [List.mem_singleton.mp hu]; exact ⟨rfl, fun d hd => by cases hd⟩
    · exact Nat.le_refl _
    · rw [← htn]; exact allLt_ne (allLt_up (show dx < pb from Nat.lt_trans l8 l9) l7.2.2.2.2.2.2.2)
    · exact .inl rfl)
  (case turn =>
    rintro ⟨⟨vs, np⟩, T5⟩ i v u h tk oI hv hi hP hoff F8 N8
    clear F5 N5 hS
    dsimp only at N8 hP hoff
    repeat' ((fail_if_success (with_reducible show wpAny _ _ (exec (Stmt.Assign _ (Expr.ListComp _ _ _ _) _) _) _ _ _)); (first | (k_unfold; (try dsimp only)) | (k_end; wrow_close) | walk1 | (dsimp only; walk1) | (leave1; walk_say "STEP leave1"; try dsimp only) | fail "no step"))
    obtain ⟨ws, hws, hgo, hw1, hw2, hpb, h96⟩ := hP
    have h3i : 3 ^ i ≤ 3 ^ 7 := Nat.pow_le_pow_right (by decide) (by omega)
    have hvl : vs.length ≤ 2187 := by rw [hws.length, List.length_map]; exact Nat.le_trans hw2 h3i
    obtain ⟨tn5, htn5⟩ : ∃ tn5, tn5 = tab96 T5 ++ news := ⟨_, rfl⟩
    rw [← htn5] at N8 hpb
    generalize h5.objs.size = I at hoff N8 hLs ⊢
    refine assignLC (by rfl) (by rfl) (by rfl) (by decide) (fun _ => rfl) ?_
    repeat' ((fail_if_success (with_reducible show wpAny _ _ (call (Value.builtin "len") _ _) _ _ _)); (first | (k_unfold; (try dsimp only)) | (k_end; wrow_close) | walk1 | (dsimp only; walk1) | (leave1; walk_say "STEP leave1"; try dsimp only) | fail "no step"))
    refine Calls.call_len_list (items := vs.toArray) ⟨_, (N8 _ (.tail _ (.tail _ (.tail _ (.head _))))).1, rfl, np, rfl⟩ (by simp; omega) ?_
    rw [show vs.toArray.size = vs.length from List.size_toArray ..]
    repeat' ((fail_if_success (with_reducible show wpAny _ _ (pyIter _) _ _ _)); (first | (k_unfold; (try dsimp only)) | (k_end; wrow_close) | walk1 | (dsimp only; walk1) | (leave1; walk_say "STEP leave1"; try dsimp only) | fail "no step"))
    rename Fr g' _ _ _ => F9
    rename News g' _ _ _ => N9
    rename IsRange _ _ _ _ _ _ _ _ => hr9
    dsimp only at hr9
    dsimp only
    generalize h.objs.size = ra9 at hr9 ⊢
    rename_i h9 tk9 _ _ _ _
    have hL9 : L' < h9.objs.size := F9.ns.lt
    have hadr : ∀ c : List Value × Nat, ∀ q ∈ ((I, oI) :: (lx, instObj 59 dx) :: (dx, dictOf (lexDict w.params q1 q2 q3 q4 (.int 1 u1) vi (.str (Str.ofString "\n\t\r ") u2) (.ref pb)) ne) :: (pb, listOf c.1.toArray c.2) ::
      (79, tabObj #[rawInt 94, rawInt 4, .ref c1, rawInt 98, rawInt 13, .ref c2]) :: (c1, o1) :: (c2, o2) :: (L' + 1 + 1 + 1 + 1, oN') :: (L' + 1 + 1 + 1, oT) :: (L' + 1 + 1, oL) :: (L' + 1, oS) :: tn5 : List (Addr × Obj)), q.1 < h9.objs.size := fun c => adr_lt (news_lt N9) rfl
    have hpb0 : ∀ q ∈ ((79, tabObj #[rawInt 94, rawInt 4, .ref c1, rawInt 98, rawInt 13, .ref c2]) :: (c1, o1) :: (c2, o2) :: (L' + 1 + 1 + 1 + 1, oN') :: (L' + 1 + 1 + 1, oT) :: (L' + 1 + 1, oL) :: (L' + 1, oS) :: tn5 : List (Addr × Obj)), q.1 ≠ pb := by
      have e : dx < pb := Nat.lt_trans l8 l9
      have g : ∀ b : Nat, b < dx → b ≠ pb := fun b hb => Nat.ne_of_lt (Nat.lt_trans hb e)
      exact List.forall_mem_cons.mpr ⟨g _ l7.1, List.forall_mem_cons.mpr ⟨g _ l7.2.1, List.forall_mem_cons.mpr ⟨g _ l7.2.2.1, List.forall_mem_cons.mpr ⟨g _ l7.2.2.2.1, List.forall_mem_cons.mpr ⟨g _ l7.2.2.2.2.1, List.forall_mem_cons.mpr ⟨g _ l7.2.2.2.2.2.1, List.forall_mem_cons.mpr ⟨g _ l7.2.2.2.2.2.2.1, hpb⟩⟩⟩⟩⟩⟩⟩
    have hpb2 : ∀ q ∈ ((I, oI) :: (79, tabObj #[rawInt 94, rawInt 4, .ref c1, rawInt 98, rawInt 13, .ref c2]) :: (c1, o1) :: (c2, o2) :: (L' + 1 + 1 + 1 + 1, oN') :: (L' + 1 + 1 + 1, oT) :: (L' + 1 + 1, oL) :: (L' + 1, oS) :: tn5 : List (Addr × Obj)), q.1 ≠ pb :=
      List.forall_mem_cons.mpr ⟨Ne.symm (hoff (pb, listOf vs.toArray np) (.tail _ (.tail _ (.head _)))), hpb0⟩
    have hpI : pb < h9.objs.size := Heap.lt_size (N9 _ (.tail _ (.tail _ (.tail _ (.head _))))).1
    refine src_range (n := vs.length) (Led := fun (c : List Value × Nat) => (I, oI) :: (lx, instObj 59 dx) :: (dx, dictOf (lexDict w.params q1 q2 q3 q4 (.int 1 u1) vi (.str (Str.ofString "\n\t\r ") u2) (.ref pb)) ne) :: (pb, listOf c.1.toArray c.2) ::
      (79, tabObj #[rawInt 94, rawInt 4, .ref c1, rawInt 98, rawInt 13, .ref c2]) :: (c1, o1) :: (c2, o2) :: (L' + 1 + 1 + 1 + 1, oN') :: (L' + 1 + 1 + 1, oT) :: (L' + 1 + 1, oL) :: (L' + 1, oS) :: tn5) (h₀ := g') (by rfl) hr9 (by omega) fun o9 hS9 => ?_
    refine lcOne (Led := fun (c : List Value × Nat) => (I, oI) :: (lx, instObj 59 dx) :: (dx, dictOf (lexDict w.params q1 q2 q3 q4 (.int 1 u1) vi (.str (Str.ofString "\n\t\r ") u2) (.ref pb)) ne) :: (pb, listOf c.1.toArray c.2) ::
      (79, tabObj #[rawInt 94, rawInt 4, .ref c1, rawInt 98, rawInt 13, .ref c2]) :: (c1, o1) :: (c2, o2) :: (L' + 1 + 1 + 1 + 1, oN') :: (L' + 1 + 1 + 1, oT) :: (L' + 1 + 1, oL) :: (L' + 1, oS) :: tn5)
      (P := fun i c ys => ys ++ c.1 = vs ∧ ys.length = i) (vs, np) hS9 (by decide) rfl rfl (F9.push _) (newsPush N9 _) hadr hL9 (by rw [Heap.size_push]; exact Nat.lt_succ_self _) ⟨rfl, rfl⟩ ?hlen ?turn ?fin
    (case hlen =>
      intro j c ys h1
      rw [sizeLine_eq]
      have := congrArg List.length h1.1
      rw [List.length_append] at this
      omega)
    (case turn =>
      rintro D C j ⟨its, nq⟩ v9 ys oI9 oC mC k h7 tk7 hID hDC hv9 hj hP9 hm hd F7 N7
      clear F9 N9 hS9 hr9 hr
      dsimp only at hP9 N7
      cases its with
      | nil => exfalso; have := congrArg List.length hP9.1; simp at this; omega
      | cons v0 its =>
        repeat' ((fail_if_success (with_reducible show wpAny _ _ (call (Value.ref _) _ _) _ _ _)); (first | (k_unfold; (try dsimp only)) | (k_end; wrow_close) | walk1 | (dsimp only; walk1) | (leave1; walk_say "STEP leave1"; try dsimp only) | fail "no step"))
        dsimp only
        have hpb3 : ∀ q ∈ ((C, oC) :: (h9.objs.size, oI9) :: (D, listOf ys.toArray k) :: (I, oI) :: (79, tabObj #[rawInt 94, rawInt 4, .ref c1, rawInt 98, rawInt 13, .ref c2]) :: (c1, o1) :: (c2, o2) :: (L' + 1 + 1 + 1 + 1, oN') :: (L' + 1 + 1 + 1, oT) :: (L' + 1 + 1, oL) :: (L' + 1, oS) :: tn5 : List (Addr × Obj)), q.1 ≠ pb :=
          List.forall_mem_cons.mpr ⟨Nat.ne_of_gt (Nat.lt_trans hpI (Nat.lt_trans hID hDC)), List.forall_mem_cons.mpr ⟨Nat.ne_of_gt hpI, List.forall_mem_cons.mpr ⟨Nat.ne_of_gt (Nat.lt_trans hpI hID), hpb2⟩⟩⟩
        have hil : its.length < 100000 := by
          have := congrArg List.length hP9.1
          rw [List.length_append, List.length_cons] at this
          omega
        k_dflt (refine' ctrN_use (pop_ok w lx dx pb q1 q2 q3 q4 _ vi _ v0 ne nq its _ (Nat.ne_of_lt l9) (Nat.ne_of_lt (Nat.lt_trans l8 l9)) hpb3 hil) X' B' F7 (news_rot7 N7) T' ⟨C', C'2⟩ rfl ?dp ?un ?_)
        (case dp => show dp + 1 + 2 < recursionLimit; omega)
        (case un => show un + 3 + 8 * 2 < cLine; omega)
        rintro _ _ h6 tk6 ⟨rfl, np6, rfl⟩ F6 N6
        refine ⟨(its, np6), h6, tk6, rfl, ⟨?_, ?_⟩, F6, news_rot7' N6⟩
        · rw [List.append_assoc]; exact hP9.1
        · rw [List.length_append, hP9.2]; rfl)
    (case fin =>
      rintro D C ⟨its, nq⟩ ys mC k h7 tk7 hID hDC hP9 hn PL F7 N7 hl7
      dsimp only at hP9 N7
      obtain ⟨rfl, rfl⟩ : ys = vs ∧ its = [] := by
        have h1 := hP9.1
        have h2 := congrArg List.length h1
        rw [List.length_append, hP9.2] at h2
        have h3 : its = [] := List.length_eq_zero_iff.mp (by omega)
        subst h3
        exact ⟨by simpa using h1, rfl⟩
      clear F9 N9 hS9 hr9 hr hP9
      refine finAssign PL hn F7 N7 hl7 hDC rfl rfl rfl fun h6 F6 N6 => ?_
      clear F7 N7
      repeat' ((fail_if_success (with_reducible show wpAny _ _ (eval (Expr.Lambda _ _ _ _) _) _ _ _)); (fail_if_success (with_reducible show wpAny _ _ (call (Value.ref _) _ _) _ _ _)); (first | (k_unfold; (try dsimp only)) | (k_end; wrow_close) | walk1 | (dsimp only; walk1) | (leave1; walk_say "STEP leave1"; try dsimp only) | fail "no step"))
      refine wpAny_mono (Q := fun v s' => ∃ (fl : Nat) (fo : Obj) (c5 : Nat) (o5 : Obj) (h7 : Heap) (tk7 : Nat) (uu : Str → Option Value), v = .ref fl ∧ s' = { s with heap := h7, toks := tk7 } ∧ (∃ fd, fo.data = .func fd) ∧
        Fr g' L' h7 (fun z => if z = Str.ofString "words" then some (.ref D) else uu z) ∧
        News g' L' h7 ((fl, fo) :: (D, listOf ys.toArray k) :: (I, oI) :: (lx, instObj 59 dx) :: (dx, dictOf (lexDict w.params q1 q2 q3 q4 (.int 1 u1) vi (.str (Str.ofString "\n\t\r ") u2) (.ref pb)) ne) :: (pb, listOf [].toArray nq) ::
          (79, tabObj #[rawInt 94, rawInt 4, .ref c1, rawInt 98, rawInt 13, .ref c2]) :: (c1, o1) :: (c2, o2) :: (L' + 1 + 1 + 1 + 1, oN') :: (L' + 1 + 1 + 1, oT) :: (L' + 1 + 1, oL) :: (L' + 1, oS) :: (tab96 (some (c5, o5)) ++ news)) ∧
        (c5 ≠ pb ∧ c5 ≠ I) ∧ Okay96 T9 news (some (c5, o5)) ∧ Tells1 w 6 fl [(fl, fo), (L' + 1 + 1 + 1, oT), (L' + 1, oS), (c5, o5)] ys (subV x)) ?lam ?rest (fun _ _ e => e)
      (case lam =>
        have n1 : (96 : Nat) < D := Nat.lt_trans l96 (Nat.lt_trans hL9 hID)
        have n2 : (96 : Nat) < I := Nat.lt_trans l96 hLs
        have n3 : (96 : Nat) < dx := Nat.lt_trans (Nat.lt_succ_of_lt l96) l7.2.2.2.2.2.2.1
        have n4 : (96 : Nat) < lx := Nat.lt_trans n3 l8
        have n5 : (96 : Nat) < pb := Nat.lt_trans n4 l9
        obtain ⟨n6, n7⟩ := hc0
        rcases T5 with _ | ⟨c5, o5⟩
        · subst htn5
          simp only [tab96, List.cons_append, List.nil_append] at N6
          walk1
          rename_i fl c5 o5 vs5 t5 ct5 h7 tk7 F7 N7 d51 d52 l5 l6
          obtain ⟨fo, efo, N8⟩ := newsHead N7
          refine ⟨fl, fo, c5, o5, h7, tk7, _, rfl, rfl, ⟨_, by rw [efo]⟩, F7, ?news, ?ne, ?ok, ?tells⟩
          (case news =>
            simp only [tab96, List.cons_append, List.nil_append]
            refine newsSub N8 ?_
            repeat (refine List.forall_mem_cons.mpr ⟨by k_mem, ?_⟩)
            intro q hq
            repeat' (first | exact hq | refine List.Mem.tail _ ?_))
          (case ne => exact ⟨Nat.ne_of_gt (by omega), Nat.ne_of_gt (by omega)⟩)
          (case ok => exact .inr ⟨c5, o5, rfl, l5.2.2.2.2.2.2.2.2.2.2.2.2.2, by omega, ⟨_, _, d51, d52⟩⟩)
          (case tells =>
            subst efo
            clear N7 N8 F7 N6 F6 hret hk hdp hun T B X F N
            intro v8 hv8 news2 hneed
            obtain ⟨u8, t8, rfl, hu8⟩ := strs_mem hws hv8
            unfold CtrN
            intro p2 loose2 mean2 mg2 mb2 dp2 un2 gd2 cn2 cs2 a2 ccd2 cl2 outer2 A2 base2 h02 L2 m2 s2 Q2 E2 X2 B2 F2 N2 T2 CH2 hk2 hdp2 hun2 hret2
            have N3 := newsNeed N2 hneed
            simp only [List.cons_append, List.nil_append] at N3
            clear N2
            refine wpAny_call ?_
            k_dflt (refine' kla_code (binds := [(Str.ofString "word", Value.str (S u8) t8)]) ?k1 ?k2 ?k3 ?k4 ?k5 ?kA ?kF ?kK ?k6 ?k7 ?k8 ?k9 ?kB ?_ ?c2 ?c3 ?c4 ?c5; (case kA => exact rfl); (case kF => exact rfl); (case kK => assumption); (case k1 => exact B2); (case k2 => exact F2); (case k3 => exact X2); (case k4 => exact N3); (case k5 => exact T2); (case k6 => k_mem); (case k7 => exact codeRec_news N3 (by k_mem) d51 d52); (case k8 => (show dp2 < recursionLimit; omega)); (case k9 => exact rfl); (case c5 => decide); (case kB => exact locs rfl); (case c2 => exact rfl); (case c3 => exact rfl); (case c4 => exact rfl); k_whole)
            intro g3 L3 h3' FG3 F3 N3' B3 X3 T3
            clear X' B' T' FG' C' C'2 F2 N3
            (try dsimp only)
            (try k_fold)
            generalize qualnameIn _ _ _ = qn at *
            repeat' ((fail_if_success (with_reducible show wpAny _ _ (call (Value.ref _) _ _) _ _ _)); (first | (k_unfold; (try dsimp only)) | (k_end; wrow_close) | walk1 | (dsimp only; walk1) | (leave1; walk_say "STEP leave1"; try dsimp only) | fail "no step"))
            have hu9 := hw1 u8 hu8
            rename Fr g3 _ _ _ => F4
            rename News g3 _ _ _ => N4
            k_dflt (refine' ctr_use (dots_ls w t8 t3 h3 hu9.2 (by omega)) X3 B3 F4 N4 T3 rfl ?dp ?un ?_)
            (case dp => show dp2 + 1 + 4 < recursionLimit; omega)
            (case un => show un2 + 3 + 8 * 4 < cLine; omega)
            rintro _ h5' tk5 ⟨t5', rfl⟩ F5 N5
            clear F4 N4
            repeat' ((fail_if_success (with_reducible show wpAny _ _ (call (Value.ref _) _ _) _ _ _)); (first | (k_unfold; (try dsimp only)) | (k_end; wrow_close) | walk1 | (dsimp only; walk1) | (leave1; walk_say "STEP leave1"; try dsimp only) | fail "no step"))
            rename Fr g3 _ _ _ => F4
            rename News g3 _ _ _ => N4
            k_dflt (refine' ctr_use (em_ls w t5' t1 h3 hu9.2 (by omega) hx) X3 B3 F4 N4 T3 rfl ?dp ?un ?_)
            (case dp => show dp2 + 1 + 2 < recursionLimit; omega)
            (case un => show un2 + 3 + 8 * 2 < cLine; omega)
            rintro _ h6' tk6 rfl F6 N6
            clear F4 N4
            repeat' ((first | (k_unfold; (try dsimp only)) | (k_end; wrow_close) | walk1 | (dsimp only; walk1) | (leave1; walk_say "STEP leave1"; try dsimp only) | fail "no step"))
            rename Fr h02 L2 _ _ => kF
            rename News h02 L2 _ _ => kN
            exact hret2 _ _ _ _ ⟨rfl, rfl⟩ kF (newsSub kN fun q hq => .tail _ (.tail _ (.tail _ (.tail _ hq)))))
        · subst htn5
          simp only [tab96, List.cons_append, List.nil_append] at N6
          have hok5 : ok96 (some (c5, o5)) := by
            rcases h96 with e | ⟨_, _, e, _, _, e2⟩
            · rw [e]; exact hok9
            · cases e; exact e2
          obtain ⟨vs5, t5, d51, d52⟩ := hok5
          walk1
          rename_i fl ct5 h7 tk7 F7 N7 l5
          obtain ⟨fo, efo, N8⟩ := newsHead N7
          refine ⟨fl, fo, c5, o5, h7, tk7, _, rfl, rfl, ⟨_, by rw [efo]⟩, F7, ?news, ?ne, ?ok, ?tells⟩
          (case news =>
            simp only [tab96, List.cons_append, List.nil_append]
            refine newsSub N8 ?_
            repeat (refine List.forall_mem_cons.mpr ⟨by k_mem, ?_⟩)
            intro q hq
            repeat' (first | exact hq | refine List.Mem.tail _ ?_))
          (case ne => exact ⟨hpb (c5, o5) (.tail _ (.head _)), hoff (c5, o5) (by simp [tab96])⟩)
          (case ok => exact h96)
          (case tells =>
            subst efo
            clear N7 N8 F7 N6 F6 hret hk hdp hun T B X F N
            intro v8 hv8 news2 hneed
            obtain ⟨u8, t8, rfl, hu8⟩ := strs_mem hws hv8
            unfold CtrN
            intro p2 loose2 mean2 mg2 mb2 dp2 un2 gd2 cn2 cs2 a2 ccd2 cl2 outer2 A2 base2 h02 L2 m2 s2 Q2 E2 X2 B2 F2 N2 T2 CH2 hk2 hdp2 hun2 hret2
            have N3 := newsNeed N2 hneed
            simp only [List.cons_append, List.nil_append] at N3
            clear N2
            refine wpAny_call ?_
            k_dflt (refine' kla_code (binds := [(Str.ofString "word", Value.str (S u8) t8)]) ?k1 ?k2 ?k3 ?k4 ?k5 ?kA ?kF ?kK ?k6 ?k7 ?k8 ?k9 ?kB ?_ ?c2 ?c3 ?c4 ?c5; (case kA => exact rfl); (case kF => exact rfl); (case kK => assumption); (case k1 => exact B2); (case k2 => exact F2); (case k3 => exact X2); (case k4 => exact N3); (case k5 => exact T2); (case k6 => k_mem); (case k7 => exact codeRec_news N3 (by k_mem) d51 d52); (case k8 => (show dp2 < recursionLimit; omega)); (case k9 => exact rfl); (case c5 => decide); (case kB => exact locs rfl); (case c2 => exact rfl); (case c3 => exact rfl); (case c4 => exact rfl); k_whole)
            intro g3 L3 h3' FG3 F3 N3' B3 X3 T3
            clear X' B' T' FG' C' C'2 F2 N3
            (try dsimp only)
            (try k_fold)
            generalize qualnameIn _ _ _ = qn at *
            repeat' ((fail_if_success (with_reducible show wpAny _ _ (call (Value.ref _) _ _) _ _ _)); (first | (k_unfold; (try dsimp only)) | (k_end; wrow_close) | walk1 | (dsimp only; walk1) | (leave1; walk_say "STEP leave1"; try dsimp only) | fail "no step"))
            have hu9 := hw1 u8 hu8
            rename Fr g3 _ _ _ => F4
            rename News g3 _ _ _ => N4
            k_dflt (refine' ctr_use (dots_ls w t8 t3 h3 hu9.2 (by omega)) X3 B3 F4 N4 T3 rfl ?dp ?un ?_)
            (case dp => show dp2 + 1 + 4 < recursionLimit; omega)
            (case un => show un2 + 3 + 8 * 4 < cLine; omega)
            rintro _ h5' tk5 ⟨t5', rfl⟩ F5 N5
            clear F4 N4
            repeat' ((fail_if_success (with_reducible show wpAny _ _ (call (Value.ref _) _ _) _ _ _)); (first | (k_unfold; (try dsimp only)) | (k_end; wrow_close) | walk1 | (dsimp only; walk1) | (leave1; walk_say "STEP leave1"; try dsimp only) | fail "no step"))
            rename Fr g3 _ _ _ => F4
            rename News g3 _ _ _ => N4
            k_dflt (refine' ctr_use (em_ls w t5' t1 h3 hu9.2 (by omega) hx) X3 B3 F4 N4 T3 rfl ?dp ?un ?_)
            (case dp => show dp2 + 1 + 2 < recursionLimit; omega)
            (case un => show un2 + 3 + 8 * 2 < cLine; omega)
            rintro _ h6' tk6 rfl F6 N6
            clear F4 N4
            repeat' ((first | (k_unfold; (try dsimp only)) | (k_end; wrow_close) | walk1 | (dsimp only; walk1) | (leave1; walk_say "STEP leave1"; try dsimp only) | fail "no step"))
            rename Fr h02 L2 _ _ => kF
            rename News h02 L2 _ _ => kN
            exact hret2 _ _ _ _ ⟨rfl, rfl⟩ kF (newsSub kN fun q hq => .tail _ (.tail _ (.tail _ (.tail _ hq)))))
        )
      (case rest =>
        rintro _ _ ⟨fl, ⟨foc, fod, fda, fsl⟩, c5, o5, h8, tk8, uu, rfl, rfl, ⟨fd5, hfd5⟩, F8, N8, ⟨hc5, hc5I⟩, hok5, htells⟩
        clear F6 N6
        dsimp only at hfd5
        subst hfd5
        repeat' ((fail_if_success (with_reducible show wpAny _ _ (call (Value.ref _) _ _) _ _ _)); (first | (k_unfold; (try dsimp only)) | (k_end; wrow_close) | walk1 | (dsimp only; walk1) | (leave1; walk_say "STEP leave1"; try dsimp only) | fail "no step"))
        k_dflt (refine' ctrN_use (split_ok w 6 D fl foc fod fd5 fsl _ ys k (subV x) htells _ ?hneed (.head _) (.tail _ (.head _)) (by omega)) X' B' F8 N8 T' ⟨C', C'2⟩ rfl ?dp ?un ?_)
        (case hneed => repeat (first | exact List.forall_mem_nil _ | refine List.forall_mem_cons.mpr ⟨by k_mem, ?_⟩))
        (case dp => show dp + 1 + (6 + 2) < recursionLimit; omega)
        (case un => show un + 3 + 8 * (6 + 2) < cLine; omega)
        rintro _ _ h7 tk7 ⟨D7, Y7, Z7, ny7, nz7, rfl, rfl, l10, l11, l12⟩ F7 N7
        clear F8 N8 htells
        repeat' ((fail_if_success (with_reducible show wpAny _ _ (exec (Stmt.Assign _ (Expr.ListComp _ _ _ _) _) _) _ _ _)); (first | (k_unfold; (try dsimp only)) | (k_end; wrow_close) | walk1 | (dsimp only; walk1) | (leave1; walk_say "STEP leave1"; try dsimp only) | fail "no step"))
        rename Fr g' L' _ _ => F9
        rename News g' L' _ _ => N9
        refine assignLC (by rfl) (by rfl) (by rfl) (by decide) (fun _ => rfl) ?_
        repeat' ((fail_if_success (with_reducible show wpAny _ _ (pyIter _) _ _ _)); (first | (k_unfold; (try dsimp only)) | (k_end; wrow_close) | walk1 | (dsimp only; walk1) | (leave1; walk_say "STEP leave1"; try dsimp only) | fail "no step"))
        have hfy : (ys.filter fun v => !subV x v).length ≤ 2187 := Nat.le_trans (List.length_filter_le ..) hvl
        refine src_list (vs := ys.filter fun v => !subV x v) (Led := fun (_ : Unit) => (D7, ({ cls := .type "tuple", data := .seq #[.ref Y7, .ref Z7] } : Obj)) :: (Z7, listOf (ys.filter fun v => !subV x v).toArray nz7) :: (Y7, listOf (ys.filter (subV x)).toArray ny7) ::
            (fl, ({ cls := foc, dict := fod, data := Data.func fd5, slots := fsl } : Obj)) :: (D, listOf ys.toArray k) :: (I, oI) :: (lx, instObj 59 dx) :: (dx, dictOf (lexDict w.params q1 q2 q3 q4 (.int 1 u1) vi (.str (Str.ofString "\n\t\r ") u2) (.ref pb)) ne) :: (pb, listOf #[] nq) ::
            (79, tabObj #[rawInt 94, rawInt 4, .ref c1, rawInt 98, rawInt 13, .ref c2]) :: (c1, o1) :: (c2, o2) :: (L' + 1 + 1 + 1 + 1, oN') :: (L' + 1 + 1 + 1, oT) :: (L' + 1 + 1, oL) :: (L' + 1, oS) :: (tab96 (some (c5, o5)) ++ news)) (h₀ := g') (by rfl)
            ⟨_, (N9 _ (.tail _ (.head _))).1, rfl, nz7, rfl⟩ (.inl ⟨_, fun _ => .tail _ (.head _)⟩) fun o10 hS10 => ?_
        have hLA := F9.ns.lt
        refine lcTest _ (P := fun i _ zs => zs = ((ys.filter fun v => !subV x v).take i).filter (subV y)) () hS10 (by decide) rfl rfl (F9.push _) (newsPush N9 _) (fun _ => news_lt N9) hLA (by rw [Heap.size_push]; exact Nat.lt_succ_self _) rfl ?hlen ?turn ?fin
        (case hlen =>
          intro j _ zs h1
          rw [sizeLine_eq, h1]
          have e1 := List.length_filter_le (subV y) ((ys.filter fun v => !subV x v).take j)
          have e2 : ((ys.filter fun v => !subV x v).take j).length ≤ (ys.filter fun v => !subV x v).length := by rw [List.length_take]; exact Nat.min_le_right ..
          omega)
        (case turn =>
          intro D3 C3 j _ v3 zs oI3 oC mC k3 hh3 tk3 hID3 hDC3 hv3 hj hP3 hm hd F10 N10
          clear F9 N9 hS10
          have hv3m : v3 ∈ ys := (List.mem_filter.mp (List.mem_of_getElem? hv3)).1
          obtain ⟨u3, t3', rfl, hu3⟩ := strs_mem hws hv3m
          have hu3' := hw1 u3 hu3
          repeat' ((fail_if_success (with_reducible show wpAny _ _ (call (Value.ref _) _ _) _ _ _)); (first | (k_unfold; (try dsimp only)) | (k_end; wrow_close) | walk1 | (dsimp only; walk1) | (leave1; walk_say "STEP leave1"; try dsimp only) | fail "no step"))
          k_dflt (refine' ctr_use (dots_ls w t3' t3 h3 hu3'.2 (by omega)) X' B' F10 N10 T' rfl ?dp ?un ?_)
          (case dp => show dp + 1 + 4 < recursionLimit; omega)
          (case un => show un + 3 + 8 * 4 < cLine; omega)
          rintro _ h5' tk5 ⟨t5', rfl⟩ F11 N11
          clear F10 N10
          repeat' ((fail_if_success (with_reducible show wpAny _ _ (call (Value.ref _) _ _) _ _ _)); (first | (k_unfold; (try dsimp only)) | (k_end; wrow_close) | walk1 | (dsimp only; walk1) | (leave1; walk_say "STEP leave1"; try dsimp only) | fail "no step"))
          k_dflt (refine' ctr_use (em_ls w t5' t2 h3 hu3'.2 (by omega) hy) X' B' F11 N11 T' rfl ?dp ?un ?_)
          (case dp => show dp + 1 + 2 < recursionLimit; omega)
          (case un => show un + 3 + 8 * 2 < cLine; omega)
          rintro _ h6' tk6 rfl F12 N12

          repeat' ((fail_if_success (with_reducible show wpAny _ _ (eval (Expr.Name _ _) _) _ _ _)); (first | (k_unfold; (try dsimp only)) | (k_end; wrow_close) | walk1 | (dsimp only; walk1) | (leave1; walk_say "STEP leave1"; try dsimp only) | fail "no step"))
          · walk1
            rename (List.isSublist _ _ = true) => hb
            exact ⟨(), _, _, rfl, by rw [ft_step hv3, ← hP3, if_pos (show subV y (Value.str (S u3) t3') = true from hb)], by assumption, by assumption⟩
          · rename (List.isSublist _ _ = false) => hb
            exact ⟨(), _, _, rfl, by rw [ft_step hv3, ← hP3, if_neg (show ¬ subV y (Value.str (S u3) t3') = true by rw [show subV y (Value.str (S u3) t3') = u3.isSublist y from rfl, hb]; decide), List.append_nil], by assumption, by assumption⟩)
        (case fin =>
          intro D4 C4 _ zs mC k4 h4 tk4 hID4 hDC4 hP4 hn4 PL4 F10 N10 hl4
          clear F9 N9 hS10
          rw [List.take_length] at hP4
          subst hP4
          refine finAssign PL4 hn4 F10 N10 hl4 hDC4 rfl rfl rfl fun h11 F11 N11 => ?_
          clear F10 N10
          repeat' ((fail_if_success (with_reducible show wpAny _ _ (compareOp _ _ _) _ _ _)); (first | (k_unfold; (try dsimp only)) | (k_end; wrow_close) | walk1 | (dsimp only; walk1) | (leave1; walk_say "STEP leave1"; try dsimp only) | fail "no step"))
          rename_i l13 h13 F13 N13 lA13

          have hap := strs_filter (p := subV y) (q := fun u => u.isSublist y) (fun _ _ => rfl) (strs_filter (p := fun v => !subV x v) (q := fun u => !u.isSublist x) (fun _ _ => rfl) hws)
          have hcm := strs_filter (p := subV x) (q := fun u => u.isSublist x) (fun _ _ => rfl) hws
          refine ne_strs N13 (by k_mem) (.head _) hap .nil (sok_sub hls fun u hu => (hw1 u (List.mem_filter.mp (List.mem_filter.mp hu).1).1).2) (fun _ h => nomatch h) (show un + 3 + 64 < cLine by omega) ?_
          by_cases hnil : (ws.filter fun u => !u.isSublist x).filter (fun u => u.isSublist y) = []
          · rw [hnil]
            repeat' ((fail_if_success (with_reducible show wpAny _ _ (exec (Stmt.For _ _ _ _ _) _) _ _ _)); (first | (k_unfold; (try dsimp only)) | (k_end; wrow_close) | walk1 | (dsimp only; walk1) | (leave1; walk_say "STEP leave1"; try dsimp only) | fail "no step"))
            rename Fr g' L' _ _ => F14
            rename News g' L' _ _ => N14
            have gt : ∀ b : Nat, pb < b → b ≠ pb := fun b hb => Nat.ne_of_gt hb
            have pY : pb < Y7 := (show fl < Y7 ∧ D < Y7 ∧ I < Y7 ∧ lx < Y7 ∧ dx < Y7 ∧ pb < Y7 ∧ _ from l10).2.2.2.2.2.1
            have pD : pb < D := hl7 _ (.tail _ (.tail _ (.tail _ (.head _))))
            have pZ : pb < Z7 := Nat.lt_trans pY l11
            have p7 : pb < D7 := Nat.lt_trans pZ l12
            have p4 : pb < D4 := Nat.lt_trans p7 (hl4 _ (.head _))
            have pf : fl ≠ pb := ne_of_obj N14 (o := ({ cls := foc, dict := fod, data := Data.func fd5, slots := fsl } : Obj)) (o' := listOf #[] nq) (by k_mem) (by k_mem) (fun e => by cases e)
            have pI : I ≠ pb := hpb2 _ (.head _)
            have h96p : (96 : Nat) < pb := Nat.lt_trans (Nat.lt_trans (Nat.lt_succ_of_lt l96) l7.2.2.2.2.2.2.1) (Nat.lt_trans l8 l9)
            have hpb5 : ∀ q ∈ (tab96 (some (c5, o5)) ++ news), q.1 ≠ pb := by
              intro q hq
              rcases List.mem_cons.mp (show q ∈ (96, _) :: (c5, o5) :: news from hq) with rfl | hq
              · exact Nat.ne_of_lt h96p
              rcases List.mem_cons.mp hq with rfl | hq
              · exact hc5
              · exact hpb q (by rw [htn5]; exact List.mem_append_right _ hq)
            have hpbR : ∀ q ∈ ((D4, listOf ((ys.filter fun v => !subV x v).filter (subV y)).toArray k4) :: (D7, ({ cls := .type "tuple", data := .seq #[.ref Y7, .ref Z7] } : Obj)) :: (Z7, listOf (ys.filter fun v => !subV x v).toArray nz7) :: (Y7, listOf (ys.filter (subV x)).toArray ny7) :: (fl, ({ cls := foc, dict := fod, data := Data.func fd5, slots := fsl } : Obj)) :: (D, listOf ys.toArray k) :: (I, oI) :: (79, tabObj #[rawInt 94, rawInt 4, .ref c1, rawInt 98, rawInt 13, .ref c2]) :: (c1, o1) :: (c2, o2) :: (L' + 1 + 1 + 1 + 1, oN') :: (L' + 1 + 1 + 1, oT) :: (L' + 1 + 1, oL) :: (L' + 1, oS) :: (tab96 (some (c5, o5)) ++ news) : List (Addr × Obj)), q.1 ≠ pb := by
              refine List.forall_mem_cons.mpr ⟨gt _ p4, List.forall_mem_cons.mpr ⟨gt _ p7, List.forall_mem_cons.mpr ⟨gt _ pZ, List.forall_mem_cons.mpr ⟨gt _ pY, List.forall_mem_cons.mpr ⟨pf, List.forall_mem_cons.mpr ⟨gt _ pD, List.forall_mem_cons.mpr ⟨pI, ?_⟩⟩⟩⟩⟩⟩⟩
              refine List.forall_mem_cons.mpr ⟨hpb0 _ (.head _), List.forall_mem_cons.mpr ⟨hpb0 _ (.tail _ (.head _)), List.forall_mem_cons.mpr ⟨hpb0 _ (.tail _ (.tail _ (.head _))), List.forall_mem_cons.mpr ⟨hpb0 _ (.tail _ (.tail _ (.tail _ (.head _)))), List.forall_mem_cons.mpr ⟨hpb0 _ (.tail _ (.tail _ (.tail _ (.tail _ (.head _))))), List.forall_mem_cons.mpr ⟨hpb0 _ (.tail _ (.tail _ (.tail _ (.tail _ (.tail _ (.head _)))))), List.forall_mem_cons.mpr ⟨hpb0 _ (.tail _ (.tail _ (.tail _ (.tail _ (.tail _ (.tail _ (.head _))))))), hpb5⟩⟩⟩⟩⟩⟩⟩
            replace N14 : News g' L' _ ((lx, instObj 59 dx) :: (dx, dictOf (lexDict w.params q1 q2 q3 q4 (.int 1 u1) vi (.str (Str.ofString "\n\t\r ") u2) (.ref pb)) ne) :: (pb, listOf ([] : List Value).toArray nq) :: (D4, listOf ((ys.filter fun v => !subV x v).filter (subV y)).toArray k4) :: (D7, ({ cls := .type "tuple", data := .seq #[.ref Y7, .ref Z7] } : Obj)) :: (Z7, listOf (ys.filter fun v => !subV x v).toArray nz7) :: (Y7, listOf (ys.filter (subV x)).toArray ny7) :: (fl, ({ cls := foc, dict := fod, data := Data.func fd5, slots := fsl } : Obj)) :: (D, listOf ys.toArray k) :: (I, oI) :: (79, tabObj #[rawInt 94, rawInt 4, .ref c1, rawInt 98, rawInt 13, .ref c2]) :: (c1, o1) :: (c2, o2) :: (L' + 1 + 1 + 1 + 1, oN') :: (L' + 1 + 1 + 1, oT) :: (L' + 1 + 1, oL) :: (L' + 1, oS) :: (tab96 (some (c5, o5)) ++ news)) := newsSub N14 (by
              repeat (refine List.forall_mem_cons.mpr ⟨by k_mem, ?_⟩)
              intro q hq
              repeat' (first | exact hq | refine List.Mem.tail _ ?_))
            have hl3 : ls.length = 3 := by obtain ⟨_, _, _, rfl, _⟩ := h3; rfl
            with_unfolding_all refine' For_invVF F14 ?k1 ?k2 ?_
            (case k1 => exact rfl)
            (case k2 => exact rfl)
            repeat' ((fail_if_success (with_reducible show wpAny _ _ (pyIter _) _ _ _)); (first | (k_unfold; (try dsimp only)) | (k_end; wrow_close) | walk1 | (dsimp only; walk1) | (leave1; walk_say "STEP leave1"; try dsimp only) | fail "no step"))
            have hcl : (ys.filter (subV x)).length ≤ 3 ^ i := by rw [hcm.length, List.length_map]; exact Nat.le_trans (List.length_filter_le ..) hw2
            refine src_list (vs := ys.filter (subV x)) (Led := fun (c : List Value × Nat) => (lx, instObj 59 dx) :: (dx, dictOf (lexDict w.params q1 q2 q3 q4 (.int 1 u1) vi (.str (Str.ofString "\n\t\r ") u2) (.ref pb)) ne) :: (pb, listOf c.1.toArray c.2) :: (D4, listOf ((ys.filter fun v => !subV x v).filter (subV y)).toArray k4) :: (D7, ({ cls := .type "tuple", data := .seq #[.ref Y7, .ref Z7] } : Obj)) :: (Z7, listOf (ys.filter fun v => !subV x v).toArray nz7) :: (Y7, listOf (ys.filter (subV x)).toArray ny7) :: (fl, ({ cls := foc, dict := fod, data := Data.func fd5, slots := fsl } : Obj)) :: (D, listOf ys.toArray k) :: (I, oI) :: (79, tabObj #[rawInt 94, rawInt 4, .ref c1, rawInt 98, rawInt 13, .ref c2]) :: (c1, o1) :: (c2, o2) :: (L' + 1 + 1 + 1 + 1, oN') :: (L' + 1 + 1 + 1, oT) :: (L' + 1 + 1, oL) :: (L' + 1, oS) :: (tab96 (some (c5, o5)) ++ news)) (h₀ := g') (by rfl)
              ⟨_, (N14 _ (.tail _ (.tail _ (.tail _ (.tail _ (.tail _ (.tail _ (.head _)))))))).1, rfl, ny7, rfl⟩ (.inl ⟨_, fun _ => .tail _ (.tail _ (.tail _ (.tail _ (.tail _ (.tail _ (.head _))))))⟩) fun o20 hS20 => ?_
            have hL20 := F14.ns.lt
            have hoff20 := news_lt N14
            refine forSrc (σ := List Value × Nat) _ (mu := fun _ _ => none) (kept := []) (P := fun j c => StrsAre c.1 ((grow ls ((ws.filter fun u => u.isSublist x).take j)).map S)) (([] : List Value), nq) hS20 (F14.push _) (newsPush N14 _) hL20 ?hoffB ?hmB ?hPB ?turnB ?doneB
            (case hoffB => exact fun q hq => Nat.ne_of_lt (hoff20 q hq))
            (case hmB => exact fun z hz => by cases hz)
            (case hPB => exact StrsAre.nil)
            (case turnB =>
              rintro ⟨its, np20⟩ j v uf h20 tk20 oI20 hv hj hP hoff F15 N15
              clear F14 N14 hS20
              dsimp only at N15 hP hoff
              obtain ⟨u, tu, rfl, hu⟩ := strs_get hcm hv
              have hum := hw1 u (List.mem_filter.mp (List.mem_of_getElem? hu)).1
              repeat' ((fail_if_success (with_reducible show wpAny _ _ (exec (Stmt.For _ _ _ _ _) _) _ _ _)); (first | (k_unfold; (try dsimp only)) | (k_end; wrow_close) | walk1 | (dsimp only; walk1) | (leave1; walk_say "STEP leave1"; try dsimp only) | fail "no step"))
              rename Fr g' L' _ _ => F16
              rename News g' L' _ _ => N16
              with_unfolding_all refine' For_invVF F16 ?k1 ?k2 ?_
              (case k1 => exact rfl)
              (case k2 => exact rfl)
              repeat' ((fail_if_success (with_reducible show wpAny _ _ (pyIter _) _ _ _)); (first | (k_unfold; (try dsimp only)) | (k_end; wrow_close) | walk1 | (dsimp only; walk1) | (leave1; walk_say "STEP leave1"; try dsimp only) | fail "no step"))
              rename News g' L' _ _ => N17
              have hL21 := F16.ns.lt
              have hoff21 := news_lt N17
              generalize h13.objs.size = A20 at N17 hoff hoff21 ⊢
              refine src_str (Led := fun (c : List Value × Nat) => (A20, oI20) :: (lx, instObj 59 dx) :: (dx, dictOf (lexDict w.params q1 q2 q3 q4 (.int 1 u1) vi (.str (Str.ofString "\n\t\r ") u2) (.ref pb)) ne) :: (pb, listOf c.1.toArray c.2) :: (D4, listOf ((ys.filter fun v => !subV x v).filter (subV y)).toArray k4) :: (D7, ({ cls := .type "tuple", data := .seq #[.ref Y7, .ref Z7] } : Obj)) :: (Z7, listOf (ys.filter fun v => !subV x v).toArray nz7) :: (Y7, listOf (ys.filter (subV x)).toArray ny7) :: (fl, ({ cls := foc, dict := fod, data := Data.func fd5, slots := fsl } : Obj)) :: (D, listOf ys.toArray k) :: (I, oI) :: (79, tabObj #[rawInt 94, rawInt 4, .ref c1, rawInt 98, rawInt 13, .ref c2]) :: (c1, o1) :: (c2, o2) :: (L' + 1 + 1 + 1 + 1, oN') :: (L' + 1 + 1 + 1, oT) :: (L' + 1 + 1, oL) :: (L' + 1, oS) :: (tab96 (some (c5, o5)) ++ news)) (h₀ := g') (by rfl) fun o21 hS21 => ?_
              refine forSrc (σ := List Value × Nat) _ (mu := fun _ y => if y = Str.ofString "word" then some (.str (S u) tu) else none) (kept := [Str.ofString "word"])
                (P := fun l c => StrsAre c.1 ((grow ls ((ws.filter fun u => u.isSublist x).take j) ++ (ls.take l).map fun d => u ++ [d]).map S)) (its, np20) hS21 (F16.push _) (newsPush N17 _) hL21 ?hoffC ?hmC ?hPC ?turnC ?doneC
              (case hoffC => exact fun q hq => Nat.ne_of_lt (hoff21 q hq))
              (case hmC => repeat' (first | exact List.forall_mem_nil _ | refine List.forall_mem_cons.mpr ⟨by with_unfolding_all rfl, ?_⟩))
              (case hPC => simpa using hP)
              (case turnC =>
                rintro ⟨it2, np21⟩ l v2 uf2 h21 tk21 oI21 hv2 hl2 hP2 hoff2 F18 N18
                clear F16 N17 hS21
                dsimp only at N18 hP2 hoff2
                obtain ⟨c, uc, hc, rfl⟩ := hv2
                repeat' ((fail_if_success (with_reducible show wpAny _ _ (call (Value.ref _) _ _) _ _ _)); (first | (k_unfold; (try dsimp only)) | (k_end; wrow_close) | walk1 | (dsimp only; walk1) | (leave1; walk_say "STEP leave1"; try dsimp only) | fail "no step"))
                rename Fr g' L' _ _ => F19
                rename News g' L' _ _ => N19
                have hil : it2.length < 100000 := by
                  have e1 := hP2.length
                  have e2 := grow_len hl3 ((ws.filter fun u => u.isSublist x).take j)
                  have e3 : ((ws.filter fun u => u.isSublist x).take j).length ≤ ws.length := by rw [List.length_take]; exact Nat.le_trans (Nat.min_le_right ..) (List.length_filter_le ..)
                  have e4 : (ls.take l).length ≤ ls.length := by rw [List.length_take]; exact Nat.min_le_right ..
                  rw [List.length_map, List.length_append, List.length_map] at e1
                  omega
                k_dflt (refine' ctrN_use (push_ok w lx dx pb q1 q2 q3 q4 _ vi _ _ ne np21 it2 _ (Nat.ne_of_lt l9) (Nat.ne_of_lt (Nat.lt_trans l8 l9)) (offCons (Ne.symm (hoff2 (pb, listOf it2.toArray np21) (.tail _ (.tail _ (.tail _ (.head _)))))) (offCons (Ne.symm (hoff (pb, listOf its.toArray np20) (.tail _ (.tail _ (.head _))))) hpbR)) hil) X' B' F19 (news_rot5 N19) T' ⟨C', C'2⟩ rfl ?dp ?un ?_)
                (case dp => show dp + 1 + 2 < recursionLimit; omega)
                (case un => show un + 3 + 8 * 2 < cLine; omega)
                rintro _ _ h6 tk6 ⟨rfl, rfl⟩ F6 N6
                clear F19 N19
                repeat' ((first | (k_unfold; (try dsimp only)) | (k_end; wrow_close) | walk1 | (dsimp only; walk1) | (leave1; walk_say "STEP leave1"; try dsimp only) | fail "no step"))
                refine ⟨(it2 ++ [_], np21 + 1), _, _, _, rfl, ?_, off_adr hoff2 rfl, ?_, F6, news_rot5' N6⟩
                · dsimp only
                  have e1 : ls[l]? = some c := by simpa using hc
                  have e2 : (grow ls ((ws.filter fun u => u.isSublist x).take j) ++ (ls.take (l + 1)).map fun d => u ++ [d]).map S = (grow ls ((ws.filter fun u => u.isSublist x).take j) ++ (ls.take l).map fun d => u ++ [d]).map S ++ [S (u ++ [c])] := by
                    rw [List.take_add_one, e1]; simp
                  rw [e2, str_app]
                  exact hP2.append' (.cons _ _ .nil)
                · repeat' (first | exact List.forall_mem_nil _ | refine List.forall_mem_cons.mpr ⟨by with_unfolding_all rfl, ?_⟩))
              (case doneC =>
                rintro ⟨it2, np21⟩ uf2 h21 tk21 hP2 F18 N18
                clear F16 N17 hS21
                dsimp only at N18 hP2 ⊢
                repeat' ((first | (k_unfold; (try dsimp only)) | (k_end; wrow_close) | walk1 | (dsimp only; walk1) | (leave1; walk_say "STEP leave1"; try dsimp only) | fail "no step"))
                refine ⟨(it2, np21), _, _, _, rfl, ?_, ?_, (fun z hz => by cases hz), by assumption, N18⟩
                · dsimp only
                  rw [List.take_of_length_le (show ls.length ≤ (S ls).cps.size from Nat.le_refl _), ← grow_step hu] at hP2
                  exact hP2
                · exact off_adr hoff rfl))
            (case doneB =>
              rintro ⟨its, np20⟩ uf h20 tk20 hP F15 N15
              clear F14 N14 hS20
              dsimp only at N15 hP ⊢
              repeat' ((first | (k_unfold; (try dsimp only)) | (k_end; wrow_close) | walk1 | (dsimp only; walk1) | (leave1; walk_say "STEP leave1"; try dsimp only) | fail "no step"))
              rw [List.take_of_length_le (show (ws.filter fun u => u.isSublist x).length ≤ (ys.filter (subV x)).length by rw [hcm.length, List.length_map]; exact Nat.le_refl _)] at hP
              refine ⟨((its, np20), some (c5, o5)), _, _, _, rfl, ⟨grow ls (ws.filter fun u => u.isSublist x), hP, ?_, ?_, ?_, hpb5, hok5⟩, ?_, (fun z hz => by cases hz), by assumption, newsSub N15 ?_⟩
              · rw [← hgo, show (S y).length + 1 - i = ((S y).length + 1 - (i + 1)) + 1 by omega, apartGo, if_pos hnil]
                rfl
              · intro u hu
                obtain ⟨v, hv, hu⟩ := List.mem_flatMap.mp hu
                obtain ⟨d, hd, rfl⟩ := List.mem_map.mp hu
                have hv' := hw1 v (List.mem_filter.mp hv).1
                refine ⟨by rw [List.length_append, hv'.1]; rfl, fun e he => ?_⟩
                rcases List.mem_append.mp he with he | he
                · exact hv'.2 e he
                · rw [List.mem_singleton.mp he]; exact hd
              · rw [grow_len hl3, Nat.pow_succ, Nat.mul_comm]
                exact Nat.mul_le_mul_right 3 (Nat.le_trans (List.length_filter_le ..) hw2)
              · have h1 : ∀ q ∈ tab96 (some (c5, o5)) ++ news, q.1 ≠ I := by
                  intro q hq
                  rcases List.mem_cons.mp (show q ∈ (96, _) :: (c5, o5) :: news from hq) with rfl | hq
                  · exact Nat.ne_of_lt (Nat.lt_trans l96 hLs)
                  rcases List.mem_cons.mp hq with rfl | hq
                  · exact hc5I
                  · exact hoff q (by repeat' (first | exact List.mem_append_right _ (htn5 ▸ List.mem_append_right _ hq) | exact List.mem_append_right _ hq | exact (htn5 ▸ List.mem_append_right _ hq) | refine List.Mem.tail _ ?_))
                exact offCons (hoff _ (.head _)) (offCons (hoff _ (.tail _ (.head _))) (offCons (hoff _ (.tail _ (.tail _ (.head _)))) (offCons (hoff _ (.tail _ (.tail _ (.tail _ (.head _))))) (offCons (hoff _ (.tail _ (.tail _ (.tail _ (.tail _ (.head _)))))) (offCons (hoff _ (.tail _ (.tail _ (.tail _ (.tail _ (.tail _ (.head _))))))) (offCons (hoff _ (.tail _ (.tail _ (.tail _ (.tail _ (.tail _ (.tail _ (.head _)))))))) (offCons (hoff _ (.tail _ (.tail _ (.tail _ (.tail _ (.tail _ (.tail _ (.tail _ (.head _))))))))) (offCons (hoff _ (.tail _ (.tail _ (.tail _ (.tail _ (.tail _ (.tail _ (.tail _ (.tail _ (.head _)))))))))) (offCons (hoff _ (.tail _ (.tail _ (.tail _ (.tail _ (.tail _ (.tail _ (.tail _ (.tail _ (.tail _ (.head _))))))))))) (h1))))))))))
              · repeat (refine List.forall_mem_cons.mpr ⟨by k_mem, ?_⟩)
                intro q hq
                repeat' (first | exact hq | refine List.Mem.tail _ ?_))
          · rw [decide_eq_false (show ¬ (((ws.filter fun u => !u.isSublist x).filter fun u => u.isSublist y).map S = []) from fun e => hnil (List.map_eq_nil_iff.mp e))]
            repeat' ((first | (k_unfold; (try dsimp only)) | (k_end; wrow_close) | walk1 | (dsimp only; walk1) | (leave1; walk_say "STEP leave1"; try dsimp only) | fail "no step"))
            dsimp only
            unfold FPost
            dsimp only
            repeat' ((first | (k_unfold; (try dsimp only)) | (k_end; wrow_close) | walk1 | (dsimp only; walk1) | (leave1; walk_say "STEP leave1"; try dsimp only) | fail "no step"))
            rename Fr h₀ L _ _ => kF
            rename News h₀ L _ _ => kN
            refine hret _ _ _ _ ⟨D4, k4, (ys.filter fun v => !subV x v).filter (subV y), some (c5, o5), rfl, rfl, ?_, hok5, ?_⟩ kF (newsSub kN ?_)
            · rw [← hgo, show (S y).length + 1 - i = ((S y).length - i) + 1 by omega, apartGo, if_neg hnil]
              exact hap
            · intro q hq
              refine hl4 q ?_
              simp only [tab79, List.cons_append, List.nil_append, List.mem_cons] at hq ⊢
              rcases hq with h | h | h | h <;> simp [h]
            · simp only [tab79, List.cons_append, List.nil_append]
              refine List.forall_mem_cons.mpr ⟨by k_mem, List.forall_mem_cons.mpr ⟨by k_mem, List.forall_mem_cons.mpr ⟨by k_mem, List.forall_mem_cons.mpr ⟨by k_mem, ?_⟩⟩⟩⟩
              intro q hq
              repeat' (first | exact hq | refine List.Mem.tail _ ?_))
)))
  (case done =>
    intro c u h tk hP F8 N8
    clear F5 N5 hS
    obtain ⟨⟨its, np20⟩, T⟩ := c
    dsimp only at hP N8 ⊢
    obtain ⟨ws, hws, hgo, hw1, hw2, hpb, h96⟩ := hP
    rw [Nat.sub_self] at hgo
    repeat' ((first | (k_unfold; (try dsimp only)) | (k_end; wrow_close) | walk1 | (dsimp only; walk1) | (leave1; walk_say "STEP leave1"; try dsimp only) | fail "no step"))
    rename (_ < _ ∧ _) => lA
    rename Fr h₀ L _ _ => kF
    rename News h₀ L _ _ => kN
    refine hret _ _ _ _ ⟨_, 0, [], T, rfl, rfl, ?_, h96, ?_⟩ kF (newsSub kN ?_)
    · rw [← hgo]; exact .nil
    · have h1 : ∀ q ∈ tab96 T ++ news, q.1 < _ := allLt_get lA.2.2.2.2.2.2.2.2.2.2
      simp only [tab79, List.cons_append, List.nil_append]
      exact List.forall_mem_cons.mpr ⟨lA.2.2.2.1, List.forall_mem_cons.mpr ⟨lA.2.2.2.2.1, List.forall_mem_cons.mpr ⟨lA.2.2.2.2.2.1, h1⟩⟩⟩
    · simp only [tab79, List.cons_append, List.nil_append]
      refine List.forall_mem_cons.mpr ⟨by k_mem, List.forall_mem_cons.mpr ⟨by k_mem, List.forall_mem_cons.mpr ⟨by k_mem, List.forall_mem_cons.mpr ⟨by k_mem, ?_⟩⟩⟩⟩
      intro q hq
      repeat' (first | exact hq | refine List.Mem.tail _ ?_)
)
end
end
section
open PySem PySem.W PyProof.Rows PySem.Calls
/-- the same of the call's own code -/
def CtrC (w : World) (k : Nat) (f : Addr) (vs : List Value) (news : List (Addr × Obj)) (R : Value → List (Addr × Obj) → Prop) : Prop :=
  ∀ (p : Program) (loose : List Str) (mean : ExcName → Option Value) (mg mb : Str → Option Value)
    (dp un : Nat) (gd : Option (List Code)) (cn : Str) (cs : Scope) (a : Addr) (ccd : Value) (cl : List (Str × Addr)) (outer : List Env) (A₀ : Around) (base h₀ : Heap) (L : Addr) (m : Str → Option Value) (s : Shared) (Q E : Value → Shared → Prop),
    (hd.heap_39 w.params).In h₀ → Below A₀ base outer h₀ → Fr h₀ L s.heap m → News h₀ L s.heap news → Top p loose mean mg mb h₀ → (CodeHd h₀ 83 79 ∧ CodeHd h₀ 98 96) → cs.kind = .function → dp + k < recursionLimit → un + 8 * k < cLine →
    (∀ (v : Value) (news' : List (Addr × Obj)) (h' : Heap) (tk' : Nat), R v news' → Fr h₀ L h' m → News h₀ L h' news' → Q v { s with heap := h', toks := tk' }) →
    codeAny (model Challenge.rw_pe0106_01.row.prog w) (ktrTop dp un gd cn cs L a ccd cl outer) (.call (.ref f) ⟨vs, []⟩) (fun r s' => match r with | .ok (.ret v) => Q v s' | .ok _ => False | .error e => E e s') s
theorem ctrC_N {w : World} {k : Nat} {f : Addr} {vs : List Value} {news : List (Addr × Obj)} {R : Value → List (Addr × Obj) → Prop} (C : CtrC w k f vs news R) : CtrN w k f vs news R :=
  fun p loose mean mg mb dp un gd cn cs a ccd cl outer A₀ base h₀ L m s Q E X B F N T CH hk hdp hun hret => wpAny_call (C p loose mean mg mb dp un gd cn cs a ccd cl outer A₀ base h₀ L m s Q E X B F N T CH hk hdp hun hret)
theorem s_beq {a b : List Nat} : (S a == S b) = true ↔ a = b := by
  rw [beq_iff_eq]
  constructor
  · intro h
    have h1 : a.toArray = b.toArray := congrArg Str.cps h
    simpa using h1
  · rintro rfl; rfl
theorem nl_eq : Str.ofString "\n" = S [10] := by decide +kernel
/-- the lexer's own four objects and the place in the text, at a line and a place -/
def lexRows (w : World) (lx dx ds f2 f1 la pb : Nat) (q1 q2 q3 q4 t1 t2 tq ti : Tok) (ne n5 nl : Nat) (fd2 : FuncData) (n : Int) (i : Nat) : List (Addr × Obj) :=
  [(lx, instObj 59 dx), (dx, dictOf (lexDict w.params q1 q2 q3 q4 (.int n t1) (.ref f2) (.str (Str.ofString "\n\t\r ") t2) (.ref pb)) ne),
   (ds, dictOf [⟨PyData.keyHash w.params "read", .str "read" tq, .ref f1⟩] n5), (f2, ({ cls := .type "function", dict := some ds, data := .func fd2 } : Obj)), (la, listOf [.int (i : Int) ti].toArray nl)]
theorem news_rd {h₀ h : Heap} {L : Addr} {a b c d e : Addr × Obj} {r : List (Addr × Obj)} (N : News h₀ L h (a :: b :: c :: d :: e :: r)) : News h₀ L h (e :: a :: b :: c :: d :: r) := news_sub0 N (by
  (repeat (refine List.forall_mem_cons.mpr ⟨by k_mem, ?_⟩)); (intro q hq); (repeat' (first | exact hq | refine List.Mem.tail _ ?_)))
theorem news_rd' {h₀ h : Heap} {L : Addr} {a b c d e : Addr × Obj} {r : List (Addr × Obj)} (N : News h₀ L h (e :: a :: b :: c :: d :: r)) : News h₀ L h (a :: b :: c :: d :: e :: r) := news_sub0 N (by
  (repeat (refine List.forall_mem_cons.mpr ⟨by k_mem, ?_⟩)); (intro q hq); (repeat' (first | exact hq | refine List.Mem.tail _ ?_)))
section
theorem readchar_ok (w : World) (lx dx ds f2 f1 la pb : Nat) (q1 q2 q3 q4 t1 t2 tq ti : Tok) (ne n5 nl : Nat) (fd2 : FuncData) (n : Int) (i : Nat) (txt : Str) (need rest : List (Addr × Obj)) (hR : RdOk w f1 need la txt)
    (hi : i ≤ txt.length) (hn : ∀ p ∈ need, p ∈ rest) (ho : la < f2 ∧ f2 < ds ∧ ds < dx ∧ dx < lx) (hrl : ∀ p ∈ rest, p.1 ≠ la) (hrd : ∀ p ∈ rest, p.1 ≠ dx) (fd1 : FuncData) (hf1 : (f1, ({ cls := .type "function", data := .func fd1 } : Obj)) ∈ rest) :
    CtrC w 5 42 [.ref lx] (lexRows w lx dx ds f2 f1 la pb q1 q2 q3 q4 t1 t2 tq ti ne n5 nl fd2 n i ++ rest)
      (fun r n' => ∃ t t1' ti' ne' nl', r = .str (S ((txt.cps.toList.drop i).take 1)) t ∧
        n' = lexRows w lx dx ds f2 f1 la pb q1 q2 q3 q4 t1' t2 tq ti' ne' n5 nl' fd2 (n + if (txt.cps.toList.drop i).take 1 = [10] then 1 else 0) (i + ((txt.cps.toList.drop i).take 1).length) ++ rest) := by
  unfold CtrC
  k_fill
  intro p loose mean mg mb dp un gd cn cs a ccd cl outer A₀ base h₀ L m s Q E X B F N T CH hk hdp hun hret
  simp only [lexRows, List.cons_append, List.nil_append] at N
  w_on
  k_dflt (refine' code_def ?k1 ?k2 ?k3 ?k4 ?k5 ?kA ?kF ?kK ?k6 ?k7 ?k8 ?k9 ?kB ?_ ?c2 ?c3 ?c4 ?c5; (case kA => exact rfl); (case kF => exact rfl); (case kK => assumption); (case k1 => k_asm); (case k2 => k_asm); (case k3 => k_asm); (case k4 => k_asm); (case k5 => k_asm); (case k6 => k_is); (case k7 => k_is); (case k8 => (show dp < recursionLimit; omega)); (case k9 => exact BindsTo.of_eq (binds := [(Str.ofString "self", Value.ref lx)]) rfl); (case c5 => decide); (case kB => exact locs rfl); (case c2 => exact rfl); (case c3 => exact rfl); (case c4 => exact rfl); k_whole; intro g' L' h' FG' F' N' B' X' T'; (try dsimp only); (try k_lift B'); (try k_fold))
  repeat' ((fail_if_success (with_reducible show wpAny _ _ (getMethod _ _ _) _ _ _)); (first | (k_unfold; (try dsimp only)) | (k_end; wrow_close) | walk1 | (dsimp only; walk1) | (leave1; walk_say "STEP leave1"; try dsimp only) | fail "no step"))
  refine getmethod_fn (f := f2) (ds := ds) (n := n5) (fd := fd2) (tq := tq) (v := .ref f1) (N' (f2, _) (.tail _ (.tail _ (.tail _ (.head _))))).1 (N' (ds, _) (.tail _ (.tail _ (.head _)))).1 rfl ?_
  dsimp only
  refine callWith_F (FnAt.of N' (.tail _ (.tail _ (.tail _ (.tail _ (.tail _ hf1)))))) ?_
  repeat' ((fail_if_success (with_reducible show wpAny _ _ (call (Value.ref _) _ _) _ _ _)); (first | (k_unfold; (try dsimp only)) | (k_end; wrow_close) | walk1 | (dsimp only; walk1) | (leave1; walk_say "STEP leave1"; try dsimp only) | fail "no step"))
  · exact FnAt.of N' (.tail _ (.tail _ (.tail _ (.tail _ (.tail _ hf1)))))
  have C' : CodeHd g' 83 79 ∧ CodeHd g' 98 96 := ⟨CH.1.keeps FG'.keep, CH.2.keeps FG'.keep⟩
  have hoffR : ∀ p ∈ ((lx, instObj 59 dx) :: (dx, dictOf (lexDict w.params q1 q2 q3 q4 (.int n t1) (.ref f2) (.str (Str.ofString "\n\t\r ") t2) (.ref pb)) ne) :: (ds, dictOf [⟨PyData.keyHash w.params "read", .str "read" tq, .ref f1⟩] n5) :: (f2, ({ cls := .type "function", dict := some ds, data := .func fd2 } : Obj)) :: rest), p.1 ≠ la := by
    refine List.forall_mem_cons.mpr ⟨Nat.ne_of_gt (by omega), List.forall_mem_cons.mpr ⟨Nat.ne_of_gt (by omega), List.forall_mem_cons.mpr ⟨Nat.ne_of_gt (by omega), List.forall_mem_cons.mpr ⟨Nat.ne_of_gt (by omega), hrl⟩⟩⟩⟩
  k_dflt (refine' ctrN_use (hR i ti _ nl _ hi (fun p hp => .tail _ (.tail _ (.tail _ (.tail _ (hn p hp))))) hoffR) X' B' F' (news_rd N') T' C' rfl ?dp ?un ?_)
  (case dp => show dp + 1 + 3 < recursionLimit; omega)
  (case un => show un + 3 + 8 * 3 < cLine; omega)
  rintro _ _ h7 tk7 ⟨t7, t8, rfl, rfl⟩ F7 N7
  clear F' N'
  repeat' ((fail_if_success (with_reducible show wpAny _ _ (exec (Stmt.If _ _ _ _) _) _ _ _)); (first | (k_unfold; (try dsimp only)) | (k_end; wrow_close) | walk1 | (dsimp only; walk1) | (leave1; walk_say "STEP leave1"; try dsimp only) | fail "no step"))
  rename Fr g' L' _ _ => F8
  rename News g' L' _ _ => N8
  replace N8 := news_rd' N8
  dsimp only [lexDict] at N8
  generalize hsg : (txt.cps.toList.drop i).take 1 = sg at *
  have hoffD : ∀ p ∈ ((ds, dictOf [⟨PyData.keyHash w.params "read", .str "read" tq, .ref f1⟩] n5) :: (f2, ({ cls := .type "function", dict := some ds, data := .func fd2 } : Obj)) :: (la, listOf [.int (((i + sg.length : Nat)) : Int) t8].toArray nl) :: rest), p.1 ≠ dx := by
    refine List.forall_mem_cons.mpr ⟨Nat.ne_of_lt (by omega), List.forall_mem_cons.mpr ⟨Nat.ne_of_lt (by omega), List.forall_mem_cons.mpr ⟨Nat.ne_of_lt (by omega), hrd⟩⟩⟩
  have hlxd : lx ≠ dx := Nat.ne_of_gt ho.2.2.2
  repeat' ((fail_if_success (with_reducible show wpAny _ _ (setAttr _ _ _) _ _ _)); (fail_if_success (with_reducible show wpAny _ _ (execs [Stmt.Return _ _] _) _ _ _)); (first | (k_unfold; (try dsimp only)) | (k_end; wrow_close) | walk1 | (dsimp only; walk1) | (leave1; walk_say "STEP leave1"; try dsimp only) | fail "no step"))
  · k_here
    k_dflt (refine' set_dict (n' := ne) (es' := [⟨PyData.keyHash w.params "lineno", .str "lineno" q1, .int (n + 1) _⟩, ⟨PyData.keyHash w.params "instream", .str "instream" q2, .ref f2⟩, ⟨PyData.keyHash w.params "whitespace", .str "whitespace" q3, .str (Str.ofString "\n\t\r ") t2⟩, ⟨PyData.keyHash w.params "pushback", .str "pushback" q4, .ref pb⟩]) ?k1 ?k2 ?k3 ?k4 ?k5 ?k6 ?k7 ?k8 ?k9 ?k10 ?k11 ?k12 ?k13 ?_; (case k1 => k_asm); (case k2 => k_asm); (case k3 => k_asm); (case k4 => k_inst); (case k5 => exact rfl); (case k6 => k_is); (case k7 => k_is); (case k8 => k_is); (case k9 => k_is); (case k10 => k_get); (case k11 => with_unfolding_all rfl); (case k12 => exact .tail hlxd (.head hoffD)); (case k13 => exact Nat.le_of_ble_eq_true rfl); k_whole; intro h' F' N'; (try k_sweep))
    dsimp only
    repeat' ((first | (k_unfold; (try dsimp only)) | (k_end; wrow_close) | walk1 | (dsimp only; walk1) | (leave1; walk_say "STEP leave1"; try dsimp only) | fail "no step"))
    rename Fr h₀ L _ _ => kF
    rename News h₀ L _ _ => kN
    rename ((S sg == Str.ofString "\n") = true) => hb
    have hc : sg = [10] := s_beq.mp (nl_eq ▸ hb)
    refine hret _ _ _ _ ⟨t7, _, t8, ne, nl, rfl, by rw [if_pos hc]; rfl⟩ kF kN
  · dsimp only
    repeat' ((first | (k_unfold; (try dsimp only)) | (k_end; wrow_close) | walk1 | (dsimp only; walk1) | (leave1; walk_say "STEP leave1"; try dsimp only) | fail "no step"))
    rename Fr h₀ L _ _ => kF
    rename News h₀ L _ _ => kN
    rename ((S sg == Str.ofString "\n") = false) => hb
    have hc : sg ≠ [10] := fun e => by rw [nl_eq, s_beq.mpr e] at hb; cases hb
    refine hret _ _ _ _ ⟨t7, t1, t8, ne, nl, rfl, by rw [if_neg hc, Int.add_zero]; rfl⟩ kF kN
end
end
section
open PySem PySem.W PyProof.Rows PySem.Calls
theorem fnAt42 {K : Frag} {f : Addr} {oc : Value} {od : Option Addr} {fd : FuncData} {osl : Array (Option Value)} (h : K.lookup f = some ⟨oc, od, .func fd, osl⟩) :
    Challenge.rw_pe0106_01.row = Challenge.rw_pe0106_01.row ∧ ∃ (o : Obj) (fd : FuncData), K.lookup f = some o ∧ o.data = .func fd := ⟨rfl, _, _, h, rfl⟩
theorem fn42a (w : World) : Challenge.rw_pe0106_01.row = Challenge.rw_pe0106_01.row ∧ ∃ (o : Obj) (fd : FuncData), (hd.heap_39 w.params).lookup 42 = some o ∧ o.data = .func fd := by
  k_fill
  k_dflt (refine' fnAt42 ?a; (case a => k_is))
theorem fn42 (w : World) : ∃ (o : Obj) (fd : FuncData), (hd.heap_39 w.params).lookup 42 = some o ∧ o.data = .func fd := (fn42a w).2
theorem take_one {l : List Nat} {c : Nat} {r : List Nat} (h : l = c :: r) : l.take 1 = [c] := by rw [h]; rfl
section
variable {w : World} {lx dx ds f2 f1 la pb it q : Nat} {q1 q2 q3 q4 t1 t2 tq ti tc : Tok} {ne n5 nl : Nat} {fd2 fd1 : FuncData} {n : Int} {i : Nat} {txt : Str} {need rest : List (Addr × Obj)}
  {p : Program} {loose : List Str} {mean : ExcName → Option Value} {mg mb : Str → Option Value}
  {dp un : Nat} {gd : Option (List Code)} {cn : Str} {cs : Scope} {a : Addr} {ccd : Value} {cl : List (Str × Addr)} {outer : List Env} {A₀ : Around} {base h₀ : Heap} {L : Addr} {m : Str → Option Value} {s : Shared} {Q : Option Value → Shared → Prop} {E : Value → Shared → Prop}
theorem next_rd (hR : RdOk w f1 need la txt) (hi : i ≤ txt.length) (hn : ∀ p ∈ need, p ∈ rest) (ho : la < f2 ∧ f2 < ds ∧ ds < dx ∧ dx < lx) (hrl : ∀ p ∈ rest, p.1 ≠ la) (hrd : ∀ p ∈ rest, p.1 ≠ dx)
    (hf1 : (f1, ({ cls := .type "function", data := .func fd1 } : Obj)) ∈ rest) (hq : lx < q ∧ q < it) (hit : ∀ p ∈ rest, p.1 < it)
    (X : (hd.heap_39 w.params).In h₀) (B : Below A₀ base outer h₀) (F : Fr h₀ L s.heap m)
    (N : News h₀ L s.heap (lexRows w lx dx ds f2 f1 la pb q1 q2 q3 q4 t1 t2 tq ti ne n5 nl fd2 n i ++ ((it, citObj q tc) :: (q, methodObj (.ref 42) (.ref lx)) :: rest))) (T : Top p loose mean mg mb h₀) (CH : CodeHd h₀ 83 79 ∧ CodeHd h₀ 98 96) (hk : cs.kind = .function) (hdp : dp + 6 < recursionLimit) (hun : un + 60 < cLine)
    (h1 : ∀ c r, txt.cps.toList.drop i = c :: r → ∀ u t1' ti' ne' nl' h' tk', Fr h₀ L h' m → News h₀ L h' (lexRows w lx dx ds f2 f1 la pb q1 q2 q3 q4 t1' t2 tq ti' ne' n5 nl' fd2 (n + if c = 10 then 1 else 0) (i + 1) ++ ((it, citObj q tc) :: (q, methodObj (.ref 42) (.ref lx)) :: rest)) →
      Q (some (.str (S [c]) u)) { s with heap := h', toks := tk' })
    (h0 : txt.cps.toList.drop i = [] → ∀ t1' ti' ne' nl' h' tk', Fr h₀ L h' m → News h₀ L h' (lexRows w lx dx ds f2 f1 la pb q1 q2 q3 q4 t1' t2 tq ti' ne' n5 nl' fd2 n i ++ ((q, methodObj (.ref 42) (.ref lx)) :: rest)) →
      Q none { s with heap := h', toks := tk' }) :
    wpAny (model Challenge.rw_pe0106_01.row.prog w) (ktrTop dp un gd cn cs L a ccd cl outer) (pyNext (.ref it)) Q E s := by
  obtain ⟨o42, fd42, e42, d42⟩ := fn42 w
  have hne : ∀ {led : List (Addr × Obj)}, (∀ p ∈ led, p.1 < it) → ∀ p ∈ led, p.1 ≠ it := fun h p hp => Nat.ne_of_lt (h p hp)
  refine next_cit (A := ktrTop dp un gd cn cs L a ccd cl outer) rfl (N (it, _) (.tail _ (.tail _ (.tail _ (.tail _ (.tail _ (.head _))))))).1 (N (q, _) (.tail _ (.tail _ (.tail _ (.tail _ (.tail _ (.tail _ (.head _)))))))).1 ((X.keeps F.keep) _ _ e42) d42 ?_
  have C := readchar_ok w lx dx ds f2 f1 la pb q1 q2 q3 q4 t1 t2 tq ti ne n5 nl fd2 n i txt need ((it, citObj q tc) :: (q, methodObj (.ref 42) (.ref lx)) :: rest) hR hi (fun p hp => .tail _ (.tail _ (hn p hp))) ho
    (List.forall_mem_cons.mpr ⟨Nat.ne_of_gt (by omega), List.forall_mem_cons.mpr ⟨Nat.ne_of_gt (by omega), hrl⟩⟩) (List.forall_mem_cons.mpr ⟨Nat.ne_of_gt (by omega), List.forall_mem_cons.mpr ⟨Nat.ne_of_gt (by omega), hrd⟩⟩) fd1 (.tail _ (.tail _ hf1))
  refine codeAny_mono (C p loose mean mg mb dp (un + 1) gd cn cs a ccd cl outer A₀ base h₀ L m s (fun v s' => ∃ y u, v = .str y u ∧ s'.heap.get? it = some (citObj q tc) ∧ (y ≠ Str.ofString "" → Q (some (.str y u)) s') ∧
          (y = Str.ofString "" → s'.heap.get? q = some (methodObj (.ref 42) (.ref lx)) ∧ s'.heap.get? 42 = some o42 ∧ ∀ h', Heap.ExtBut it s'.heap h' → Q none { s' with heap := h' })) (fun _ _ => False) X B F N T CH hk (by omega) (by omega) ?_) ?_
  · rintro v news' h' tk' ⟨t, t1', ti', ne', nl', rfl, rfl⟩ F' N'
    refine ⟨_, _, rfl, (N' (it, _) (.tail _ (.tail _ (.tail _ (.tail _ (.tail _ (.head _))))))).1, fun hy => ?_, fun hy => ⟨(N' (q, _) (.tail _ (.tail _ (.tail _ (.tail _ (.tail _ (.tail _ (.head _)))))))).1, (X.keeps F'.keep) _ _ e42, fun h2 hx => ?_⟩⟩
    · cases hd : txt.cps.toList.drop i with
      | nil => exact absurd (by rw [hd]; decide +kernel) hy
      | cons c r =>
        rw [hd] at N'
        have e : (if [c] = [10] then (1 : Int) else 0) = if c = 10 then 1 else 0 := by simp
        rw [show (c :: r).take 1 = [c] from rfl, e] at N'
        exact h1 c r hd t t1' ti' ne' nl' h' tk' F' N'
    · cases hd : txt.cps.toList.drop i with
      | cons c r =>
        rw [hd] at hy
        exact absurd hy (by rw [show Str.ofString "" = S [] by decide +kernel]; intro e; have := s_beq.mp (beq_iff_eq.mpr e); cases this)
      | nil =>
        rw [hd] at N'
        have hI := N' (it, _) (.tail _ (.tail _ (.tail _ (.tail _ (.tail _ (.head _))))))
        refine h0 hd t1' ti' ne' nl' h2 tk' (frKeep F' hI.2.1 hI.2.2 fun b o hb e => ?_) (newsKeep (X := it) (h := h') ?_ ?_ fun b o hb e => ?_)
        · exact hx b o hb e
        · refine newsSub (l' := lexRows w lx dx ds f2 f1 la pb q1 q2 q3 q4 t1' t2 tq ti' ne' n5 nl' fd2 n i ++ ((it, citObj q tc) :: (q, methodObj (.ref 42) (.ref lx)) :: rest)) ?_ ?_
          · simpa using N'
          · intro z hz
            rcases List.mem_append.mp hz with hz | hz
            · exact List.mem_append_left _ hz
            · exact List.mem_append_right _ (.tail _ hz)
        · refine hne ?_
          refine List.forall_mem_append.mpr ⟨?_, List.forall_mem_cons.mpr ⟨hq.2, hit⟩⟩
          refine List.forall_mem_cons.mpr ⟨by show lx < it; omega, List.forall_mem_cons.mpr ⟨by show dx < it; omega, List.forall_mem_cons.mpr ⟨by show ds < it; omega, List.forall_mem_cons.mpr ⟨by show f2 < it; omega, List.forall_mem_cons.mpr ⟨by show la < it; omega, List.forall_mem_nil _⟩⟩⟩⟩⟩
        · exact hx b o hb e
  · intro r s' hr
    match r, hr with
    | .ok (.ret v), hr => exact hr
end
end
section
open PySem PySem.W PyProof.Rows PySem.Calls
/-- a word as it is written in quotation marks -/
def encQ (u : List Nat) : List Nat := u.flatMap fun d => if d = 34 ∨ d = 92 then [92, d] else [d]
/-- a word, each sign behind a backslash -/
def encB (u : List Nat) : List Nat := u.flatMap fun d => [92, d]
/-- what get_token reads: the word, the signs taken, the line ends among them -/
def TokIs (l u : List Nat) (k c : Nat) : Prop :=
  (∃ more, l = 34 :: (encQ u ++ 34 :: more) ∧ k = (encQ u).length + 2 ∧ c = u.count 10) ∨
  (∃ d v more, u = d :: v ∧ l = 92 :: d :: (encB v ++ 10 :: more) ∧ k = (encB v).length + 3 ∧ c = u.count 10 + 1) ∨
  (l = [] ∧ u = [] ∧ k = 0 ∧ c = 0)
theorem drop_succ {x : Str} {i a : Nat} {r : List Nat} (h : x.cps.toList.drop i = a :: r) : x.cps.toList.drop (i + 1) = r ∧ i + 1 ≤ x.length := by
  have h1 : i < x.cps.toList.length := by
    rcases Nat.lt_or_ge i x.cps.toList.length with q | q
    · exact q
    · rw [List.drop_of_length_le q] at h; cases h
  have h2 : i < x.cps.size := by simpa using h1
  exact ⟨by rw [← List.drop_drop, h]; rfl, h2⟩
theorem s1_beq {a b : Nat} : (S [a] == S [b]) = true ↔ a = b := s_beq.trans (by simp)
theorem quo_eq : Str.ofString "\"" = S [34] := by decide +kernel
theorem bsl_eq : Str.ofString "\\" = S [92] := by decide +kernel
abbrev TkKept : List Str := [Str.ofString "token", Str.ofString "self", Str.ofString "fiter"]
abbrev TkMu (lx it : Nat) (tok : List Nat) (tt : Tok) (y : Str) : Option Value := if y = Str.ofString "token" then some (.str (S tok) tt) else if y = Str.ofString "self" then some (.ref lx) else if y = Str.ofString "fiter" then some (.ref it) else none
/-- get_token between two turns: the word so far, the line, the place -/
def TkSt (w : World) (lx dx ds f2 f1 la pb it qm : Nat) (q1 q2 q3 q4 t2 tq : Tok) (n5 np : Nat) (fd2 : FuncData) (rest : List (Addr × Obj)) (g : Heap) (L : Addr) (s : Shared) (tok : List Nat) (n : Int) (i : Nat) (s' : Shared) : Prop :=
  ∃ (t1 ti tc : Tok) (ne nl : Nat) (tt : Tok) (h : Heap) (tk : Nat) (u' : Str → Option Value), s' = { s with heap := h, toks := tk } ∧ Fr g L h (fun y => if TkKept.contains y = true then TkMu lx it tok tt y else u' y) ∧
    News g L h (lexRows w lx dx ds f2 f1 la pb q1 q2 q3 q4 t1 t2 tq ti ne n5 nl fd2 n i ++ ((it, citObj qm tc) :: (qm, methodObj (.ref 42) (.ref lx)) :: (pb, listOf ([] : List Value).toArray np) :: rest))
theorem tkFr {lx it : Nat} {tok : List Nat} {tt : Tok} {m : Str → Option Value} {h₀ h : Heap} {L : Addr} (F : Fr h₀ L h m) (e : ∀ z ∈ TkKept, m z = TkMu lx it tok tt z) : Fr h₀ L h (fun y => if TkKept.contains y = true then TkMu lx it tok tt y else m y) :=
  lpFrOut (mu := fun (_ : Unit) => TkMu lx it tok tt) (c := ()) e F
section
theorem get_ok (w : World) (lx dx ds f2 f1 la pb : Nat) (q1 q2 q3 q4 t1 t2 tq ti : Tok) (ne n5 nl np : Nat) (fd2 : FuncData) (n : Int) (i : Nat) (txt : Str) (need rest : List (Addr × Obj)) (hR : RdOk w f1 need la txt)
    (hi : i ≤ txt.length) (hn : ∀ p ∈ need, p ∈ rest) (ho : la < f2 ∧ f2 < ds ∧ ds < dx ∧ dx < lx ∧ lx < pb) (hrl : ∀ p ∈ rest, p.1 ≠ la) (hrd : ∀ p ∈ rest, p.1 ≠ dx) (fd1 : FuncData) (hf1 : (f1, ({ cls := .type "function", data := .func fd1 } : Obj)) ∈ rest)
    (u : List Nat) (k c : Nat) (hu : u.length < 20) (ht : TokIs (txt.cps.toList.drop i) u k c) :
    CtrN w 10 49 [.ref lx] (lexRows w lx dx ds f2 f1 la pb q1 q2 q3 q4 t1 t2 tq ti ne n5 nl fd2 n i ++ ((pb, listOf ([] : List Value).toArray np) :: rest))
      (fun r n' => ∃ t t1' ti' ne' nl', r = .str (S u) t ∧ n' = lexRows w lx dx ds f2 f1 la pb q1 q2 q3 q4 t1' t2 tq ti' ne' n5 nl' fd2 (n + c) (i + k) ++ ((pb, listOf ([] : List Value).toArray np) :: rest)) := by
  unfold CtrN
  k_fill
  intro p loose mean mg mb dp un gd cn cs a ccd cl outer A₀ base h₀ L m s Q E X B F N T CH hk hdp hun hret
  simp only [lexRows, List.cons_append, List.nil_append] at N
  w_on
  refine wpAny_call ?_
  k_dflt (refine' code_def ?k1 ?k2 ?k3 ?k4 ?k5 ?kA ?kF ?kK ?k6 ?k7 ?k8 ?k9 ?kB ?_ ?c2 ?c3 ?c4 ?c5; (case kA => exact rfl); (case kF => exact rfl); (case kK => assumption); (case k1 => k_asm); (case k2 => k_asm); (case k3 => k_asm); (case k4 => k_asm); (case k5 => k_asm); (case k6 => k_is); (case k7 => k_is); (case k8 => (show dp < recursionLimit; omega)); (case k9 => exact BindsTo.of_eq (binds := [(Str.ofString "self", Value.ref lx)]) rfl); (case c5 => decide); (case kB => exact locs rfl); (case c2 => exact rfl); (case c3 => exact rfl); (case c4 => exact rfl); k_whole; intro g' L' h' FG' F' N' B' X' T'; (try dsimp only); (try k_lift B'); (try k_fold))
  repeat' ((fail_if_success (with_reducible show wpAny _ _ (truthy (Value.ref _)) _ _ _)); (first | (k_unfold; (try dsimp only)) | (k_end; wrow_close) | walk1 | (dsimp only; walk1) | (leave1; walk_say "STEP leave1"; try dsimp only) | fail "no step"))
  refine kgr_truthy N' (.tail _ (.tail _ (.tail _ (.tail _ (.tail _ (.head _)))))) rfl rfl (by simp) ?_
  rw [show (!([] : List Value).isEmpty) = false from rfl]
  repeat' ((fail_if_success (with_reducible show wpAny _ _ (call (Value.builtin "iter") _ _) _ _ _)); (fail_if_success (with_reducible show wpAny _ _ (exec (Stmt.For _ _ _ _ _) _) _ _ _)); (first | (k_unfold; (try dsimp only)) | (k_end; wrow_close) | walk1 | (dsimp only; walk1) | (leave1; walk_say "STEP leave1"; try dsimp only) | fail "no step"))
  rename_i h8 qm h9 FA NA lA
  refine call_iter2 FA NA (.head _) fun it h10 F9 N9 l9 => ?_
  clear FA NA
  repeat' ((fail_if_success (with_reducible show wpAny _ _ (exec (Stmt.For _ _ _ _ _) _) _ _ _)); (first | (k_unfold; (try dsimp only)) | (k_end; wrow_close) | walk1 | (dsimp only; walk1) | (leave1; walk_say "STEP leave1"; try dsimp only) | fail "no step"))
  rename Fr g' L' _ _ => F1
  rename News g' L' _ _ => N1
  have C' : CodeHd g' 83 79 ∧ CodeHd g' 98 96 := ⟨CH.1.keeps FG'.keep, CH.2.keeps FG'.keep⟩
  have oq : lx < qm := (show lx < qm ∧ _ from lA).1
  have oi : qm < it := l9 _ (.head _)
  have oi2 : ∀ p ∈ ((pb, listOf ([] : List Value).toArray np) :: rest), p.1 < it := fun p hp => l9 p (.tail _ (.tail _ (.tail _ (.tail _ (.tail _ (.tail _ hp))))))
  have hrl2 : ∀ p ∈ ((pb, listOf ([] : List Value).toArray np) :: rest), p.1 ≠ la := List.forall_mem_cons.mpr ⟨Nat.ne_of_gt (by omega), hrl⟩
  have hrd2 : ∀ p ∈ ((pb, listOf ([] : List Value).toArray np) :: rest), p.1 ≠ dx := List.forall_mem_cons.mpr ⟨Nat.ne_of_gt (by omega), hrd⟩
  have ho2 : la < f2 ∧ f2 < ds ∧ ds < dx ∧ dx < lx := ⟨ho.1, ho.2.1, ho.2.2.1, ho.2.2.2.1⟩
  clear l9 lA
  have oLq : la < qm := Nat.lt_trans (show la < lx by omega) oq
  have oLi : la < it := Nat.lt_trans oLq oi
  have oDq : dx < qm := Nat.lt_trans (show dx < lx by omega) oq
  have oDi : dx < it := Nat.lt_trans oDq oi
  refine for_nx (I := it) (J := fun k s' => k = 1 ∧ TkSt w lx dx ds f2 f1 la pb it qm q1 q2 q3 q4 t2 tq n5 np fd2 rest g' L' s [] n i s') ?step ?start
  (case start =>
    repeat' ((fail_if_success (with_reducible show wpAny _ _ (pyIter _) _ _ _)); (first | (k_unfold; (try dsimp only)) | (k_end; wrow_close) | walk1 | (dsimp only; walk1) | (leave1; walk_say "STEP leave1"; try dsimp only) | fail "no step"))
    rename Fr g' L' _ _ => F2
    rename News g' L' _ _ => N2
    refine' pyIter_cit (N2 (it, _) (.head _)).1 ⟨rfl, 1, rfl, t1, ti, _, ne, nl, _, _, _, _, rfl, tkFr F2 ?sa, ?sb⟩
    (case sb =>
      refine newsSub N2 ?_
      simp only [lexRows, List.cons_append, List.nil_append]
      repeat (refine List.forall_mem_cons.mpr ⟨by k_mem, ?_⟩)
      intro q hq
      repeat' (first | exact hq | refine List.Mem.tail _ ?_))
    (case sa => repeat' (first | exact List.forall_mem_nil _ | refine' List.forall_mem_cons.mpr ⟨by with_unfolding_all rfl, ?_⟩)))
  (case step =>
    rintro k s' ⟨rfl, t1, ti, tc, ne, nl, tt, h1, tk1, u1, rfl, F2, N2⟩
    clear F1 N1
    refine next_rd hR hi (fun p hp => .tail _ (hn p hp)) ho2 hrl2 hrd2 (.tail _ hf1) ⟨oq, oi⟩ oi2 X' B' F2 N2 T' C' rfl (show dp + 1 + 6 < recursionLimit by omega) (show un + 3 + 60 < cLine by omega) ?r1 ?r0
    (case r1 =>
      intro c0 r hd uu t1 ti ne nl h3 tk3 F3 N3
      unfold NxTurn
      dsimp only
      rw [hd] at ht
      simp only [lexRows, List.cons_append, List.nil_append] at N3
      clear F2 N2
      rcases ht with ⟨more, e1, e2, e3⟩ | ⟨d, v, more, e0, e1, e2, e3⟩ | ⟨e1, _⟩
      · obtain ⟨rfl, rfl⟩ := List.cons.inj e1
        rw [if_neg (by decide), Int.add_zero] at N3
        repeat' ((fail_if_success (with_reducible show wpAny _ _ (exec (Stmt.For _ _ _ _ _) _) _ _ _)); (first | (k_unfold; (try dsimp only)) | (k_end; wrow_close) | walk1 | (dsimp only; walk1) | (leave1; walk_say "STEP leave1"; try dsimp only) | fail "no step"))
        rotate_left
        · rename ((Builtin.Str.occurrences _ _ _ _ _).isEmpty = false) => hb; exact absurd hb (by decide +kernel)
        rename Fr g' L' _ _ => F4
        rename News g' L' _ _ => N4

        have hd1 := drop_succ hd
        refine for_nx (I := it) (J := fun kk s' => ∃ (v pre : List Nat) (cc j : Nat), kk = v.length + 1 ∧ txt.cps.toList.drop j = encQ v ++ 34 :: more ∧ j ≤ txt.length ∧ pre ++ v = u ∧ j + (encQ v).length + 1 = i + k ∧ cc + v.count 10 = c ∧
          TkSt w lx dx ds f2 f1 la pb it qm q1 q2 q3 q4 t2 tq n5 np fd2 rest g' L' s pre (n + cc) j s') ?stepQ ?startQ
        (case startQ =>
          repeat' ((fail_if_success (with_reducible show wpAny _ _ (pyIter _) _ _ _)); (first | (k_unfold; (try dsimp only)) | (k_end; wrow_close) | walk1 | (dsimp only; walk1) | (leave1; walk_say "STEP leave1"; try dsimp only) | fail "no step"))
          rename Fr g' L' _ _ => F5
          rename News g' L' _ _ => N5
          refine' pyIter_cit (N5 (it, _) (.tail _ (.tail _ (.tail _ (.tail _ (.tail _ (.head _))))))).1 ⟨rfl, u.length + 1, u, [], 0, i + 1, rfl, hd1.1, hd1.2, rfl, by omega, by omega, t1, ti, tc, ne, nl, _, _, _, _, rfl, tkFr F5 ?sa, ?sb⟩
          (case sb => rw [show ((0 : Nat) : Int) = 0 from rfl, Int.add_zero]; exact N5)
          (case sa => repeat' (first | exact List.forall_mem_nil _ | refine' List.forall_mem_cons.mpr ⟨by with_unfolding_all rfl, ?_⟩)))
        (case stepQ =>
          rintro kk s' ⟨v, pre, cc, j, rfl, hdj, hj, hpre, hk1, hc1, t1, ti, tc, ne, nl, tt, h4, tk4, u4, rfl, F5, N5⟩
          clear F4 N4
          refine next_rd hR hj (fun p hp => .tail _ (hn p hp)) ho2 hrl2 hrd2 (.tail _ hf1) ⟨oq, oi⟩ oi2 X' B' F5 N5 T' C' rfl (show dp + 1 + 6 < recursionLimit by omega) (show un + 3 + 60 < cLine by omega) ?qr1 ?qr0
          (case qr0 =>
            intro hd0
            rw [hdj] at hd0
            exact absurd hd0 (by simp))
          (case qr1 =>
            intro c1 r1 hdc uu t1 ti ne nl h5 tk5 F6 N6
            clear F5 N5
            unfold NxTurn
            dsimp only
            rw [hdj] at hdc
            simp only [lexRows, List.cons_append, List.nil_append] at N6
            cases v with
            | nil =>
              obtain ⟨rfl, rfl⟩ := List.cons.inj hdc
              rw [if_neg (by decide), Int.add_zero] at N6
              repeat' ((fail_if_success (with_reducible show wpAny _ _ (inplaceOp _ _ _) _ _ _)); (fail_if_success (with_reducible show wpAny _ _ (call (Value.ref _) _ _) _ _ _)); (first | (k_unfold; (try dsimp only)) | (k_end; wrow_close) | walk1 | (dsimp only; walk1) | (leave1; walk_say "STEP leave1"; try dsimp only) | fail "no step"))
              all_goals try (first | (rename ((S [_] == _) = true) => hb; exact absurd hb (by decide +kernel)) | (rename ((S [_] == _) = false) => hb; exact absurd hb (by decide +kernel)))
              dsimp only [NxFlow]
              repeat' ((first | (k_unfold; (try dsimp only)) | (k_end; wrow_close) | walk1 | (dsimp only; walk1) | (leave1; walk_say "STEP leave1"; try dsimp only) | fail "no step"))
              rename Fr h₀ L _ _ => kF
              rename News h₀ L _ _ => kN
              have hpu : pre = u := by rw [← hpre, List.append_nil]
              have hcc : cc = c := by simpa using hc1
              have hjj : j + 1 = i + k := by simpa [encQ] using hk1
              subst hpu
              subst hcc
              refine hret _ _ _ _ ⟨tt, t1, ti, ne, nl, rfl, rfl⟩ kF (newsSub kN ?_)
              rw [← hjj]
              simp only [lexRows, List.cons_append, List.nil_append]
              repeat (refine List.forall_mem_cons.mpr ⟨by k_mem, ?_⟩)
              intro q hq
              repeat' (first | exact hq | refine List.Mem.tail _ ?_)
            | cons d v =>
              have hpl : (S pre).length < 20 := by have := congrArg List.length hpre; rw [List.length_append] at this; show pre.length < 20; omega
              by_cases hd34 : d = 34 ∨ d = 92
              · have he : encQ (d :: v) = 92 :: d :: encQ v := by show (if d = 34 ∨ d = 92 then [92, d] else [d]) ++ encQ v = _; rw [if_pos hd34]; rfl
                rw [he] at hdc hdj hk1
                obtain ⟨rfl, rfl⟩ := List.cons.inj hdc
                rw [if_neg (by decide), Int.add_zero] at N6
                have hdj1 := drop_succ hdj
                repeat' ((fail_if_success (with_reducible show wpAny _ _ (call (Value.ref _) _ _) _ _ _)); (fail_if_success (with_reducible show wpAny _ _ (inplaceOp _ _ _) _ _ _)); (first | (k_unfold; (try dsimp only)) | (k_end; wrow_close) | walk1 | (dsimp only; walk1) | (leave1; walk_say "STEP leave1"; try dsimp only) | fail "no step"))
                all_goals try (first | (rename ((S [_] == _) = true) => hb; exact absurd hb (by decide +kernel)) | (rename ((S [_] == _) = false) => hb; exact absurd hb (by decide +kernel)))
                rename Fr g' L' _ _ => F7
                rename News g' L' _ _ => N7
                have hrl3 : ∀ p ∈ ((it, citObj qm tc) :: (qm, methodObj (.ref 42) (.ref lx)) :: (pb, listOf ([] : List Value).toArray np) :: rest), p.1 ≠ la := List.forall_mem_cons.mpr ⟨Nat.ne_of_gt oLi, List.forall_mem_cons.mpr ⟨Nat.ne_of_gt oLq, hrl2⟩⟩
                have hrd3 : ∀ p ∈ ((it, citObj qm tc) :: (qm, methodObj (.ref 42) (.ref lx)) :: (pb, listOf ([] : List Value).toArray np) :: rest), p.1 ≠ dx := List.forall_mem_cons.mpr ⟨Nat.ne_of_gt oDi, List.forall_mem_cons.mpr ⟨Nat.ne_of_gt oDq, hrd2⟩⟩
                dsimp only
                k_dflt (refine' ctrN_use (ctrC_N (readchar_ok w lx dx ds f2 f1 la pb q1 q2 q3 q4 t1 t2 tq ti ne n5 nl fd2 (n + cc) (j + 1) txt need ((it, citObj qm tc) :: (qm, methodObj (.ref 42) (.ref lx)) :: (pb, listOf ([] : List Value).toArray np) :: rest) hR hdj1.2 (fun p hp => .tail _ (.tail _ (.tail _ (hn p hp)))) ho2 hrl3 hrd3 fd1 (.tail _ (.tail _ (.tail _ hf1))))) X' B' F7 N7 T' C' rfl ?dp ?un ?_)
                (case dp => show dp + 1 + 5 < recursionLimit; omega)
                (case un => show un + 3 + 8 * 5 < cLine; omega)
                rintro _ _ h8 tk8 ⟨t8, t1, ti, ne, nl, hr, hn8⟩ F8 N8
                clear F7 N7
                rw [take_one hdj1.1] at hr hn8
                subst hr
                subst hn8
                have hd2 := drop_succ hdj1.1
                have e10 : (if [d] = [10] then (1 : Int) else 0) = ((if d = 10 then 1 else 0 : Nat) : Int) := by by_cases h10 : d = 10 <;> simp [h10]
                rw [e10] at N8
                simp only [lexRows, List.cons_append, List.nil_append, List.length_singleton] at N8
                repeat' ((fail_if_success (with_reducible show wpAny _ _ (inplaceOp _ _ _) _ _ _)); (first | (k_unfold; (try dsimp only)) | (k_end; wrow_close) | walk1 | (dsimp only; walk1) | (leave1; walk_say "STEP leave1"; try dsimp only) | fail "no step"))
                refine PyProof.Rows.iadd_str (fun t8 tk8 => ?_) (by rw [sizeLine_eq]; show _ + 1 ≤ _; omega)
                rw [show S pre ++ S [d] = S (pre ++ [d]) from str_app pre d]
                repeat' ((first | (k_unfold; (try dsimp only)) | (k_end; wrow_close) | walk1 | (dsimp only; walk1) | (leave1; walk_say "STEP leave1"; try dsimp only) | fail "no step"))
                dsimp only [NxFlow]
                rename Fr g' L' _ _ => F9
                rename News g' L' _ _ => N9
                refine' ⟨v.length + 1, Nat.lt_succ_self _, v, pre ++ [d], cc + (if d = 10 then 1 else 0), j + 1 + 1, rfl, hd2.1, hd2.2, by rw [List.append_assoc]; exact hpre, by simp only [List.length_cons] at hk1; omega, ?sc, t1, ti, tc, ne, nl, _, _, _, _, rfl, tkFr F9 ?sa, ?sb⟩
                (case sb =>
                  rw [Int.natCast_add, ← Int.add_assoc]
                  exact N9)
                (case sc =>
                  rw [List.count_cons] at hc1
                  by_cases h10 : d = 10 <;> simp [h10] at hc1 ⊢ <;> omega)
                (case sa => repeat' (first | exact List.forall_mem_nil _ | refine' List.forall_mem_cons.mpr ⟨by with_unfolding_all rfl, ?_⟩))
              · have he : encQ (d :: v) = d :: encQ v := by show (if d = 34 ∨ d = 92 then [92, d] else [d]) ++ encQ v = _; rw [if_neg hd34]; rfl
                rw [he] at hdc hdj hk1
                obtain ⟨rfl, rfl⟩ := List.cons.inj hdc
                rw [show (if d = 10 then (1 : Int) else 0) = ((if d = 10 then 1 else 0 : Nat) : Int) by by_cases h10 : d = 10 <;> simp [h10]] at N6
                have hdj1 := drop_succ hdj
                repeat' ((fail_if_success (with_reducible show wpAny _ _ (call (Value.ref _) _ _) _ _ _)); (fail_if_success (with_reducible show wpAny _ _ (inplaceOp _ _ _) _ _ _)); (first | (k_unfold; (try dsimp only)) | (k_end; wrow_close) | walk1 | (dsimp only; walk1) | (leave1; walk_say "STEP leave1"; try dsimp only) | fail "no step"))
                all_goals try (first | (rename ((S [_] == Str.ofString "\"") = true) => hb; exact absurd (Or.inl (s1_beq.mp (quo_eq ▸ hb))) hd34) | (rename ((S [_] == Str.ofString "\\") = true) => hb; exact absurd (Or.inr (s1_beq.mp (bsl_eq ▸ hb))) hd34))
                refine PyProof.Rows.iadd_str (fun t8 tk8 => ?_) (by rw [sizeLine_eq]; show _ + 1 ≤ _; omega)
                rw [show S pre ++ S [d] = S (pre ++ [d]) from str_app pre d]
                repeat' ((first | (k_unfold; (try dsimp only)) | (k_end; wrow_close) | walk1 | (dsimp only; walk1) | (leave1; walk_say "STEP leave1"; try dsimp only) | fail "no step"))
                dsimp only [NxFlow]
                rename Fr g' L' _ _ => F9
                rename News g' L' _ _ => N9
                refine' ⟨v.length + 1, Nat.lt_succ_self _, v, pre ++ [d], cc + (if d = 10 then 1 else 0), j + 1, rfl, hdj1.1, hdj1.2, by rw [List.append_assoc]; exact hpre, by simp only [List.length_cons] at hk1; omega, ?sc, t1, ti, tc, ne, nl, _, _, _, _, rfl, tkFr F9 ?sa, ?sb⟩
                (case sb =>
                  rw [Int.natCast_add, ← Int.add_assoc]
                  exact N9)
                (case sc =>
                  rw [List.count_cons] at hc1
                  by_cases h10 : d = 10 <;> simp [h10] at hc1 ⊢ <;> omega)
                (case sa => repeat' (first | exact List.forall_mem_nil _ | refine' List.forall_mem_cons.mpr ⟨by with_unfolding_all rfl, ?_⟩))))
      · obtain ⟨rfl, rfl⟩ := List.cons.inj e1
        rw [if_neg (by decide), Int.add_zero] at N3
        repeat' ((fail_if_success (with_reducible show wpAny _ _ (exec (Stmt.For _ _ _ _ _) _) _ _ _)); (fail_if_success (with_reducible show wpAny _ _ (call (Value.ref _) _ _) _ _ _)); (fail_if_success (with_reducible show wpAny _ _ (inplaceOp _ _ _) _ _ _)); (first | (k_unfold; (try dsimp only)) | (k_end; wrow_close) | walk1 | (dsimp only; walk1) | (leave1; walk_say "STEP leave1"; try dsimp only) | fail "no step"))
        all_goals try (rename ((Builtin.Str.occurrences _ _ _ _ _).isEmpty = false) => hb; exact absurd hb (by decide +kernel))
        all_goals try (first | (rename ((S [_] == _) = true) => hb; exact absurd hb (by decide +kernel)) | (rename ((S [_] == _) = false) => hb; exact absurd hb (by decide +kernel)))
        have hd1 := drop_succ hd
        rename Fr g' L' _ _ => F7
        rename News g' L' _ _ => N7
        have hrl3 : ∀ p ∈ ((it, citObj qm tc) :: (qm, methodObj (.ref 42) (.ref lx)) :: (pb, listOf ([] : List Value).toArray np) :: rest), p.1 ≠ la := List.forall_mem_cons.mpr ⟨Nat.ne_of_gt oLi, List.forall_mem_cons.mpr ⟨Nat.ne_of_gt oLq, hrl2⟩⟩
        have hrd3 : ∀ p ∈ ((it, citObj qm tc) :: (qm, methodObj (.ref 42) (.ref lx)) :: (pb, listOf ([] : List Value).toArray np) :: rest), p.1 ≠ dx := List.forall_mem_cons.mpr ⟨Nat.ne_of_gt oDi, List.forall_mem_cons.mpr ⟨Nat.ne_of_gt oDq, hrd2⟩⟩
        dsimp only
        k_dflt (refine' ctrN_use (ctrC_N (readchar_ok w lx dx ds f2 f1 la pb q1 q2 q3 q4 t1 t2 tq ti ne n5 nl fd2 n (i + 1) txt need ((it, citObj qm tc) :: (qm, methodObj (.ref 42) (.ref lx)) :: (pb, listOf ([] : List Value).toArray np) :: rest) hR hd1.2 (fun p hp => .tail _ (.tail _ (.tail _ (hn p hp)))) ho2 hrl3 hrd3 fd1 (.tail _ (.tail _ (.tail _ hf1))))) X' B' F7 N7 T' C' rfl ?dp ?un ?_)
        (case dp => show dp + 1 + 5 < recursionLimit; omega)
        (case un => show un + 3 + 8 * 5 < cLine; omega)
        rintro _ _ h8 tk8 ⟨t8, t1, ti, ne, nl, hr, hn8⟩ F8 N8
        clear F7 N7
        rw [take_one hd1.1] at hr hn8
        subst hr
        subst hn8
        have hd2 := drop_succ hd1.1
        have e10 : (if [d] = [10] then (1 : Int) else 0) = ((if d = 10 then 1 else 0 : Nat) : Int) := by by_cases h10 : d = 10 <;> simp [h10]
        rw [e10] at N8
        simp only [lexRows, List.cons_append, List.nil_append, List.length_singleton] at N8
        repeat' ((fail_if_success (with_reducible show wpAny _ _ (inplaceOp _ _ _) _ _ _)); (first | (k_unfold; (try dsimp only)) | (k_end; wrow_close) | walk1 | (dsimp only; walk1) | (leave1; walk_say "STEP leave1"; try dsimp only) | fail "no step"))
        refine PyProof.Rows.iadd_str (fun t8 tk8 => ?_) (by rw [sizeLine_eq]; show 0 + 1 ≤ _; omega)
        rw [show S [] ++ S [d] = S [d] from str_app [] d]
        repeat' ((fail_if_success (with_reducible show wpAny _ _ (exec (Stmt.For _ _ _ _ _) _) _ _ _)); (first | (k_unfold; (try dsimp only)) | (k_end; wrow_close) | walk1 | (dsimp only; walk1) | (leave1; walk_say "STEP leave1"; try dsimp only) | fail "no step"))
        rename Fr g' L' _ _ => F4
        rename News g' L' _ _ => N4
        have hu0 : u.count 10 = (if d = 10 then 1 else 0) + v.count 10 := by rw [e0, List.count_cons]; by_cases h10 : d = 10 <;> simp [h10] <;> omega
        refine for_nx (I := it) (J := fun kk s' => ∃ (v pre : List Nat) (cc j : Nat), kk = v.length + 1 ∧ txt.cps.toList.drop j = encB v ++ 10 :: more ∧ j ≤ txt.length ∧ pre ++ v = u ∧ j + (encB v).length + 1 = i + k ∧ cc + v.count 10 + 1 = c ∧
          TkSt w lx dx ds f2 f1 la pb it qm q1 q2 q3 q4 t2 tq n5 np fd2 rest g' L' s pre (n + cc) j s') ?stepB ?startB
        (case startB =>
          repeat' ((fail_if_success (with_reducible show wpAny _ _ (pyIter _) _ _ _)); (first | (k_unfold; (try dsimp only)) | (k_end; wrow_close) | walk1 | (dsimp only; walk1) | (leave1; walk_say "STEP leave1"; try dsimp only) | fail "no step"))
          rename Fr g' L' _ _ => F5
          rename News g' L' _ _ => N5
          refine' pyIter_cit (N5 (it, _) (.tail _ (.tail _ (.tail _ (.tail _ (.tail _ (.head _))))))).1 ⟨rfl, v.length + 1, v, [d], (if d = 10 then 1 else 0), i + 1 + 1, rfl, hd2.1, hd2.2, e0.symm, by omega, by omega, t1, ti, tc, ne, nl, _, _, _, _, rfl, tkFr F5 ?sa, ?sb⟩
          (case sb => exact N5)
          (case sa => repeat' (first | exact List.forall_mem_nil _ | refine' List.forall_mem_cons.mpr ⟨by with_unfolding_all rfl, ?_⟩)))
        (case stepB =>
          clear hu0 hd2 hd1
          rintro kk s' ⟨v, pre, cc, j, rfl, hdj, hj, hpre, hk1, hc1, t1, ti, tc, ne, nl, tt, h4, tk4, u4, rfl, F5, N5⟩
          clear F4 N4
          refine next_rd hR hj (fun p hp => .tail _ (hn p hp)) ho2 hrl2 hrd2 (.tail _ hf1) ⟨oq, oi⟩ oi2 X' B' F5 N5 T' C' rfl (show dp + 1 + 6 < recursionLimit by omega) (show un + 3 + 60 < cLine by omega) ?qr1 ?qr0
          (case qr0 =>
            intro hd0
            rw [hdj] at hd0
            exact absurd hd0 (by simp))
          (case qr1 =>
            intro c1 r1 hdc uu t1 ti ne nl h5 tk5 F6 N6
            clear F5 N5
            unfold NxTurn
            dsimp only
            rw [hdj] at hdc
            simp only [lexRows, List.cons_append, List.nil_append] at N6
            cases v with
            | nil =>
              obtain ⟨rfl, rfl⟩ := List.cons.inj hdc
              rw [if_pos rfl] at N6
              repeat' ((fail_if_success (with_reducible show wpAny _ _ (inplaceOp _ _ _) _ _ _)); (fail_if_success (with_reducible show wpAny _ _ (call (Value.ref _) _ _) _ _ _)); (first | (k_unfold; (try dsimp only)) | (k_end; wrow_close) | walk1 | (dsimp only; walk1) | (leave1; walk_say "STEP leave1"; try dsimp only) | fail "no step"))
              all_goals try (rename ((Builtin.Str.occurrences _ _ _ _ _).isEmpty = true) => hb; exact absurd hb (by decide +kernel))
              all_goals try (first | (rename ((S [_] == _) = true) => hb; exact absurd hb (by decide +kernel)) | (rename ((S [_] == _) = false) => hb; exact absurd hb (by decide +kernel)))
              dsimp only [NxFlow]
              repeat' ((first | (k_unfold; (try dsimp only)) | (k_end; wrow_close) | walk1 | (dsimp only; walk1) | (leave1; walk_say "STEP leave1"; try dsimp only) | fail "no step"))
              rename Fr h₀ L _ _ => kF
              rename News h₀ L _ _ => kN
              have hpu : pre = u := by rw [← hpre, List.append_nil]
              have hcc : cc + 1 = c := by simpa using hc1
              have hjj : j + 1 = i + k := by simpa [encB] using hk1
              subst hpu
              subst hcc
              refine hret _ _ _ _ ⟨tt, t1, ti, ne, nl, rfl, rfl⟩ kF (newsSub kN ?_)
              rw [← hjj, show n + ((cc + 1 : Nat) : Int) = n + (cc : Int) + 1 by omega]
              simp only [lexRows, List.cons_append, List.nil_append]
              repeat (refine List.forall_mem_cons.mpr ⟨by k_mem, ?_⟩)
              intro q hq
              repeat' (first | exact hq | refine List.Mem.tail _ ?_)
            | cons d v =>
              have hpl : (S pre).length < 20 := by have := congrArg List.length hpre; rw [List.length_append] at this; show pre.length < 20; omega
              have he : encB (d :: v) = 92 :: d :: encB v := rfl
              rw [he] at hdc hdj hk1
              obtain ⟨rfl, rfl⟩ := List.cons.inj hdc
              rw [if_neg (by decide), Int.add_zero] at N6
              have hdj1 := drop_succ hdj
              repeat' ((fail_if_success (with_reducible show wpAny _ _ (call (Value.ref _) _ _) _ _ _)); (fail_if_success (with_reducible show wpAny _ _ (inplaceOp _ _ _) _ _ _)); (first | (k_unfold; (try dsimp only)) | (k_end; wrow_close) | walk1 | (dsimp only; walk1) | (leave1; walk_say "STEP leave1"; try dsimp only) | fail "no step"))
              all_goals try (rename ((Builtin.Str.occurrences _ _ _ _ _).isEmpty = false) => hb; exact absurd hb (by decide +kernel))
              all_goals try (first | (rename ((S [_] == _) = true) => hb; exact absurd hb (by decide +kernel)) | (rename ((S [_] == _) = false) => hb; exact absurd hb (by decide +kernel)))
              rename Fr g' L' _ _ => F7
              rename News g' L' _ _ => N7
              have hrl3 : ∀ p ∈ ((it, citObj qm tc) :: (qm, methodObj (.ref 42) (.ref lx)) :: (pb, listOf ([] : List Value).toArray np) :: rest), p.1 ≠ la := List.forall_mem_cons.mpr ⟨Nat.ne_of_gt oLi, List.forall_mem_cons.mpr ⟨Nat.ne_of_gt oLq, hrl2⟩⟩
              have hrd3 : ∀ p ∈ ((it, citObj qm tc) :: (qm, methodObj (.ref 42) (.ref lx)) :: (pb, listOf ([] : List Value).toArray np) :: rest), p.1 ≠ dx := List.forall_mem_cons.mpr ⟨Nat.ne_of_gt oDi, List.forall_mem_cons.mpr ⟨Nat.ne_of_gt oDq, hrd2⟩⟩
              dsimp only
              k_dflt (refine' ctrN_use (ctrC_N (readchar_ok w lx dx ds f2 f1 la pb q1 q2 q3 q4 t1 t2 tq ti ne n5 nl fd2 (n + cc) (j + 1) txt need ((it, citObj qm tc) :: (qm, methodObj (.ref 42) (.ref lx)) :: (pb, listOf ([] : List Value).toArray np) :: rest) hR hdj1.2 (fun p hp => .tail _ (.tail _ (.tail _ (hn p hp)))) ho2 hrl3 hrd3 fd1 (.tail _ (.tail _ (.tail _ hf1))))) X' B' F7 N7 T' C' rfl ?dp ?un ?_)
              (case dp => show dp + 1 + 5 < recursionLimit; omega)
              (case un => show un + 3 + 8 * 5 < cLine; omega)
              rintro _ _ h8 tk8 ⟨t8, t1, ti, ne, nl, hr, hn8⟩ F8 N8
              clear F7 N7
              rw [take_one hdj1.1] at hr hn8
              subst hr
              subst hn8
              have hd2 := drop_succ hdj1.1
              have e10 : (if [d] = [10] then (1 : Int) else 0) = ((if d = 10 then 1 else 0 : Nat) : Int) := by by_cases h10 : d = 10 <;> simp [h10]
              rw [e10] at N8
              simp only [lexRows, List.cons_append, List.nil_append, List.length_singleton] at N8
              repeat' ((fail_if_success (with_reducible show wpAny _ _ (inplaceOp _ _ _) _ _ _)); (first | (k_unfold; (try dsimp only)) | (k_end; wrow_close) | walk1 | (dsimp only; walk1) | (leave1; walk_say "STEP leave1"; try dsimp only) | fail "no step"))
              refine PyProof.Rows.iadd_str (fun t8 tk8 => ?_) (by rw [sizeLine_eq]; show _ + 1 ≤ _; omega)
              rw [show S pre ++ S [d] = S (pre ++ [d]) from str_app pre d]
              repeat' ((first | (k_unfold; (try dsimp only)) | (k_end; wrow_close) | walk1 | (dsimp only; walk1) | (leave1; walk_say "STEP leave1"; try dsimp only) | fail "no step"))
              dsimp only [NxFlow]
              rename Fr g' L' _ _ => F9
              rename News g' L' _ _ => N9
              refine' ⟨v.length + 1, Nat.lt_succ_self _, v, pre ++ [d], cc + (if d = 10 then 1 else 0), j + 1 + 1, rfl, hd2.1, hd2.2, by rw [List.append_assoc]; exact hpre, by simp only [List.length_cons] at hk1; omega, ?sc, t1, ti, tc, ne, nl, _, _, _, _, rfl, tkFr F9 ?sa, ?sb⟩
              (case sb =>
                rw [Int.natCast_add, ← Int.add_assoc]
                exact N9)
              (case sc =>
                rw [List.count_cons] at hc1
                by_cases h10 : d = 10 <;> simp [h10] at hc1 ⊢ <;> omega)
              (case sa => repeat' (first | exact List.forall_mem_nil _ | refine' List.forall_mem_cons.mpr ⟨by with_unfolding_all rfl, ?_⟩))))
      · cases e1)
    (case r0 =>
      intro hd t1 ti ne nl h3 tk3 F3 N3
      unfold NxTurn
      dsimp only
      rw [hd] at ht
      clear F2 N2
      rcases ht with ⟨more, e1, e2, e3⟩ | ⟨d, v, more, e0, e1, e2, e3⟩ | ⟨_, rfl, rfl, rfl⟩
      · cases e1
      · cases e1
      repeat' ((first | (k_unfold; (try dsimp only)) | (k_end; wrow_close) | walk1 | (dsimp only; walk1) | (leave1; walk_say "STEP leave1"; try dsimp only) | fail "no step"))
      rename Fr h₀ L _ _ => kF
      rename News h₀ L _ _ => kN
      refine hret _ _ _ _ ⟨tt, t1, ti, ne, nl, rfl, rfl⟩ kF (newsSub kN ?_)
      simp only [lexRows, List.cons_append, List.nil_append]
      rw [show ((0 : Nat) : Int) = 0 from rfl, Int.add_zero, Nat.add_zero]
      repeat (refine List.forall_mem_cons.mpr ⟨by k_mem, ?_⟩)
      intro q hq
      repeat' (first | exact hq | refine List.Mem.tail _ ?_)))
end
end
section
open PySem PySem.W PyProof.Rows PySem.Calls
def encQ1 (d : Nat) : List Nat := if d = 34 ∨ d = 92 then [92, d] else [d]
/-- a word as it is written -/
def wr (u : List Nat) (b : Bool) : List Nat := if b = true ∨ u = [] then 34 :: (encQ u ++ [34]) else encB u ++ [10]
theorem s_app (a b : List Nat) : S a ++ S b = S (a ++ b) := by
  have h : (S a ++ S b).cps.toList = a ++ b := by rw [Str.cps_append, Array.toList_append]
  exact StrLaws.mk_of_toList h
theorem enc_step {f : Nat → List Nat} {u : List Nat} {i c : Nat} (hc : (S u).cps[i]? = some c) : ((u.take (i + 1)).map f).map S = ((u.take i).map f).map S ++ [S (f c)] := by
  have e1 : u[i]? = some c := by simpa using hc
  rw [List.take_add_one, e1]; simp
theorem emp_eq : Str.ofString "" = S [] := by decide +kernel
theorem qb_eq : Str.ofString "\"\\" = S [34, 92] := by decide +kernel
theorem in_qb {c : Nat} {b : Bool} (h : (Builtin.Str.occurrences (Str.ofString "\"\\") (⟨#[c]⟩ : Str) 0 (Str.ofString "\"\\").length 1).isEmpty = b) : b = !decide (c = 34 ∨ c = 92) := by
  rw [qb_eq] at h
  have h' : (Builtin.Str.occurrences (S [34, 92]) (S [c]) 0 (S [34, 92]).length 1).isEmpty = b := h
  rcases StrLaws.occ_head_from (S [34, 92]) (S [c]) 0 1 (Nat.le_refl _) with ⟨e, h0⟩ | ⟨k, r, e, _, hat, _⟩
  · rw [e] at h'
    have h1 : c ≠ 34 := fun q => h0 0 (Nat.le_refl _) (at_one.mpr (by rw [q]; rfl))
    have h2 : c ≠ 92 := fun q => h0 1 (Nat.zero_le _) (at_one.mpr (by rw [q]; rfl))
    subst h'
    simp [h1, h2]
  · rw [e] at h'
    have h3 : [34, 92][k]? = some c := at_one.mp hat
    have h4 : c = 34 ∨ c = 92 := by
      match k, h3 with
      | 0, h3 => exact .inl (by simpa using h3.symm)
      | 1, h3 => exact .inr (by simpa using h3.symm)
      | k + 2, h3 => simp at h3
    subst h'
    simp [h4]
theorem flat_map (f : Nat → List Nat) (u : List Nat) : (u.map f).flatten = u.flatMap f := rfl
theorem join_flat : ∀ ws : List (List Nat), Txt.join (Str.ofString "") (ws.map S) = S ws.flatten
  | [] => by decide +kernel
  | w :: ws => by
    have e : Str.ofString "" = (⟨#[]⟩ : Str) := by decide +kernel
    have ih := join_flat ws
    have h1 : ∀ l, Txt.join (Str.ofString "") l = Str.join ⟨#[]⟩ l := fun l => by rw [e]; exact StrLaws.glued_eq_join _ _
    rw [h1] at ih ⊢
    rw [List.map_cons, join_nil_cons, ih, s_app, List.flatten_cons]
theorem flat_len (f : Nat → List Nat) (hf : ∀ d, (f d).length ≤ 2) : ∀ u : List Nat, (((u.map f).map S).map (·.length)).sum ≤ 2 * u.length
  | [] => Nat.le_refl _
  | d :: u => by
    have h1 := hf d
    have h2 := flat_len f hf u
    simp only [List.map_cons, List.sum_cons, List.length_cons]
    have h3 : (S (f d)).length = (f d).length := by simp [Str.length]
    omega
section
theorem written_ok (w : World) (u : List Nat) (b : Bool) (t1 : Tok) (hu : u.length < 20) :
    Ctr w 4 89 [.str (S u) t1, .bool b] (fun v => ∃ t, v = .str (S (wr u b)) t) := by
  unfold Ctr
  k_fill
  intro p loose mean mg mb news dp un gd cn cs ad ccd cl outer A₀ base h₀ L m s Q E X B F N T hk hdp hun hret
  w_on
  refine wpAny_call ?_
  k_dflt (refine' code_def ?k1 ?k2 ?k3 ?k4 ?k5 ?kA ?kF ?kK ?k6 ?k7 ?k8 ?k9 ?kB ?_ ?c2 ?c3 ?c4 ?c5; (case kA => exact rfl); (case kF => exact rfl); (case kK => assumption); (case k1 => k_asm); (case k2 => k_asm); (case k3 => k_asm); (case k4 => k_asm); (case k5 => k_asm); (case k6 => k_is); (case k7 => k_is); (case k8 => (show dp < recursionLimit; omega)); (case k9 => exact BindsTo.of_eq (binds := [(Str.ofString "word", Value.str (S u) t1), (Str.ofString "quoted", Value.bool b)]) rfl); (case c5 => decide); (case kB => exact locs rfl); (case c2 => exact rfl); (case c3 => exact rfl); (case c4 => exact rfl); k_whole; intro g' L' h' FG' F' N' B' X' T'; (try dsimp only); (try k_lift B'); (try k_fold))
  repeat' ((fail_if_success (with_reducible show wpAny _ _ (eval (Expr.ListComp _ _ _ _) _) _ _ _)); (first | (k_unfold; (try dsimp only)) | (k_end; wrow_close) | walk1 | (dsimp only; walk1) | (leave1; walk_say "STEP leave1"; try dsimp only) | fail "no step"))
  · rename (b = true) => hbt
    have hq : b = true ∨ u = [] := .inl hbt
    rename Fr g' L' _ _ => F3
    rename News g' L' _ _ => N3
    refine evalLC (by rfl) (by rfl) (by decide) (fun _ => rfl) ?_
    repeat' ((fail_if_success (with_reducible show wpAny _ _ (pyIter _) _ _ _)); (first | (k_unfold; (try dsimp only)) | (k_end; wrow_close) | walk1 | (dsimp only; walk1) | (leave1; walk_say "STEP leave1"; try dsimp only) | fail "no step"))
    have hL3 := F3.ns.lt
    have hn3 := news_lt N3
    refine src_str (Led := fun (_ : Unit) => news) (h₀ := g') (by rfl) fun o hS => ?_
    refine lcOne (Led := fun (_ : Unit) => news) (P := fun i _ ys => StrsAre ys (((u.take i).map encQ1).map S)) () hS (by decide) rfl rfl (F3.push _) (newsPush N3 _) (fun _ => hn3) hL3 (by rw [Heap.size_push]; exact Nat.lt_succ_self _) StrsAre.nil ?hlen ?turn ?fin
    (case hlen =>
      intro j _ zs hz
      have h1 := hz.length
      rw [h1, sizeLine_eq, List.length_map, List.length_map, List.length_take]
      have := Nat.min_le_right j u.length
      omega)
    (case turn =>
      intro D C i _ v ys oI oC mC k h tk hID hDC hv hi hP hm hd F9 N9
      clear F3 N3 hS
      obtain ⟨c, uc, hc, rfl⟩ := hv
      repeat' ((first | (k_unfold; (try dsimp only)) | (k_end; wrow_close) | walk1 | (dsimp only; walk1) | (leave1; walk_say "STEP leave1"; try dsimp only) | fail "no step"))
      · rename ((Builtin.Str.occurrences _ _ _ _ _).isEmpty = true) => hb
        have hb2 := in_qb hb
        have hb3 : encQ1 c = [c] := by unfold encQ1; rw [if_neg (fun q => by rw [decide_eq_true q] at hb2; cases hb2)]
        exact ⟨(), _, _, rfl, by rw [enc_step hc, hb3]; exact hP.append' (.cons _ _ .nil), by assumption, by assumption⟩
      · rename ((Builtin.Str.occurrences _ _ _ _ _).isEmpty = false) => hb
        have hb2 := in_qb hb
        have hb3 : encQ1 c = [92, c] := by unfold encQ1; rw [if_pos (by rcases Decidable.em (c = 34 ∨ c = 92) with q | q; exact q; rw [decide_eq_false q] at hb2; cases hb2)]
        exact ⟨(), _, _, rfl, by rw [enc_step hc, hb3, show Str.ofString "\\" ++ (⟨#[c]⟩ : Str) = S [92, c] by rw [bsl_eq]; exact s_app [92] [c]]; exact hP.append' (.cons _ _ .nil), by assumption, by assumption⟩)
    (case fin =>
      intro D C _ ys mC k h tk hID hDC hP hn PL F9 N9 hl
      refine finNone PL hn F9 N9 hl hDC fun h7 F7 N7 => ?_
      clear F9 N9 F3 N3 hS
      repeat' ((fail_if_success (with_reducible show wpAny _ _ (call (Value.builtin "str.join") _ _) _ _ _)); (first | (k_unfold; (try dsimp only)) | (k_end; wrow_close) | walk1 | (dsimp only; walk1) | (leave1; walk_say "STEP leave1"; try dsimp only) | fail "no step"))
      dsimp only [List.singleton_append, List.cons_append, List.nil_append]
      rw [List.take_of_length_le (show u.length ≤ (S u).cps.size from Nat.le_refl _)] at hP
      have hsl := flat_len encQ1 (fun d => by unfold encQ1; split <;> simp) u
      refine join_listC (items := ys.toArray) (ys := ((u.map encQ1).map S)) ⟨_, (N7 _ (.head _)).1, rfl, k, rfl⟩ (by simpa using hP) (by decide +kernel) (by rw [List.length_map, List.length_map]; omega) fun t5 k5 => ?_
      rw [join_flat]
      have hjl : (S (u.map encQ1).flatten).length ≤ 40 := by
        show (u.map encQ1).flatten.length ≤ 40
        rw [List.length_flatten, List.map_map]
        have e9 : ((((u.map encQ1).map S)).map (·.length)).sum = (u.map (List.length ∘ encQ1)).sum := by rw [List.map_map, List.map_map]; rfl
        omega
      repeat' ((first | (k_unfold; (try dsimp only)) | (k_end; wrow_close) | walk1 | (dsimp only; walk1) | (leave1; walk_say "STEP leave1"; try dsimp only) | fail "no step"))
      rename Fr h₀ L _ _ => kF
      rename News h₀ L _ _ => kN
      refine hret _ _ _ ⟨_, by rw [wr, if_pos (by simp [hq]), show Str.ofString "\"" = S [34] from quo_eq, s_app, s_app]; rfl⟩ kF (newsSub kN fun q hq => by repeat' (first | exact hq | refine List.Mem.tail _ ?_)))
  · rename ((S u == _) = true) => hbe
    have hq : b = true ∨ u = [] := .inr (s_beq.mp (emp_eq ▸ hbe))
    rename Fr g' L' _ _ => F3
    rename News g' L' _ _ => N3
    refine evalLC (by rfl) (by rfl) (by decide) (fun _ => rfl) ?_
    repeat' ((fail_if_success (with_reducible show wpAny _ _ (pyIter _) _ _ _)); (first | (k_unfold; (try dsimp only)) | (k_end; wrow_close) | walk1 | (dsimp only; walk1) | (leave1; walk_say "STEP leave1"; try dsimp only) | fail "no step"))
    have hL3 := F3.ns.lt
    have hn3 := news_lt N3
    refine src_str (Led := fun (_ : Unit) => news) (h₀ := g') (by rfl) fun o hS => ?_
    refine lcOne (Led := fun (_ : Unit) => news) (P := fun i _ ys => StrsAre ys (((u.take i).map encQ1).map S)) () hS (by decide) rfl rfl (F3.push _) (newsPush N3 _) (fun _ => hn3) hL3 (by rw [Heap.size_push]; exact Nat.lt_succ_self _) StrsAre.nil ?hlen ?turn ?fin
    (case hlen =>
      intro j _ zs hz
      have h1 := hz.length
      rw [h1, sizeLine_eq, List.length_map, List.length_map, List.length_take]
      have := Nat.min_le_right j u.length
      omega)
    (case turn =>
      intro D C i _ v ys oI oC mC k h tk hID hDC hv hi hP hm hd F9 N9
      clear F3 N3 hS
      obtain ⟨c, uc, hc, rfl⟩ := hv
      repeat' ((first | (k_unfold; (try dsimp only)) | (k_end; wrow_close) | walk1 | (dsimp only; walk1) | (leave1; walk_say "STEP leave1"; try dsimp only) | fail "no step"))
      · rename ((Builtin.Str.occurrences _ _ _ _ _).isEmpty = true) => hb
        have hb2 := in_qb hb
        have hb3 : encQ1 c = [c] := by unfold encQ1; rw [if_neg (fun q => by rw [decide_eq_true q] at hb2; cases hb2)]
        exact ⟨(), _, _, rfl, by rw [enc_step hc, hb3]; exact hP.append' (.cons _ _ .nil), by assumption, by assumption⟩
      · rename ((Builtin.Str.occurrences _ _ _ _ _).isEmpty = false) => hb
        have hb2 := in_qb hb
        have hb3 : encQ1 c = [92, c] := by unfold encQ1; rw [if_pos (by rcases Decidable.em (c = 34 ∨ c = 92) with q | q; exact q; rw [decide_eq_false q] at hb2; cases hb2)]
        exact ⟨(), _, _, rfl, by rw [enc_step hc, hb3, show Str.ofString "\\" ++ (⟨#[c]⟩ : Str) = S [92, c] by rw [bsl_eq]; exact s_app [92] [c]]; exact hP.append' (.cons _ _ .nil), by assumption, by assumption⟩)
    (case fin =>
      intro D C _ ys mC k h tk hID hDC hP hn PL F9 N9 hl
      refine finNone PL hn F9 N9 hl hDC fun h7 F7 N7 => ?_
      clear F9 N9 F3 N3 hS
      repeat' ((fail_if_success (with_reducible show wpAny _ _ (call (Value.builtin "str.join") _ _) _ _ _)); (first | (k_unfold; (try dsimp only)) | (k_end; wrow_close) | walk1 | (dsimp only; walk1) | (leave1; walk_say "STEP leave1"; try dsimp only) | fail "no step"))
      dsimp only [List.singleton_append, List.cons_append, List.nil_append]
      rw [List.take_of_length_le (show u.length ≤ (S u).cps.size from Nat.le_refl _)] at hP
      have hsl := flat_len encQ1 (fun d => by unfold encQ1; split <;> simp) u
      refine join_listC (items := ys.toArray) (ys := ((u.map encQ1).map S)) ⟨_, (N7 _ (.head _)).1, rfl, k, rfl⟩ (by simpa using hP) (by decide +kernel) (by rw [List.length_map, List.length_map]; omega) fun t5 k5 => ?_
      rw [join_flat]
      have hjl : (S (u.map encQ1).flatten).length ≤ 40 := by
        show (u.map encQ1).flatten.length ≤ 40
        rw [List.length_flatten, List.map_map]
        have e9 : ((((u.map encQ1).map S)).map (·.length)).sum = (u.map (List.length ∘ encQ1)).sum := by rw [List.map_map, List.map_map]; rfl
        omega
      repeat' ((first | (k_unfold; (try dsimp only)) | (k_end; wrow_close) | walk1 | (dsimp only; walk1) | (leave1; walk_say "STEP leave1"; try dsimp only) | fail "no step"))
      rename Fr h₀ L _ _ => kF
      rename News h₀ L _ _ => kN
      refine hret _ _ _ ⟨_, by rw [wr, if_pos (by simp [hq]), show Str.ofString "\"" = S [34] from quo_eq, s_app, s_app]; rfl⟩ kF (newsSub kN fun q hq => by repeat' (first | exact hq | refine List.Mem.tail _ ?_)))
  · rename ((S u == _) = false) => hbe
    rename (b = false) => hbf
    have hne : ¬ (b = true ∨ u = []) := by
      rintro (h | h)
      · rw [hbf] at h; cases h
      · rw [emp_eq, s_beq.mpr h] at hbe; cases hbe
    rename Fr g' L' _ _ => F3
    rename News g' L' _ _ => N3
    refine evalLC (by rfl) (by rfl) (by decide) (fun _ => rfl) ?_
    repeat' ((fail_if_success (with_reducible show wpAny _ _ (pyIter _) _ _ _)); (first | (k_unfold; (try dsimp only)) | (k_end; wrow_close) | walk1 | (dsimp only; walk1) | (leave1; walk_say "STEP leave1"; try dsimp only) | fail "no step"))
    have hL3 := F3.ns.lt
    have hn3 := news_lt N3
    refine src_str (Led := fun (_ : Unit) => news) (h₀ := g') (by rfl) fun o hS => ?_
    refine lcOne (Led := fun (_ : Unit) => news) (P := fun i _ ys => StrsAre ys (((u.take i).map (fun d => [92, d])).map S)) () hS (by decide) rfl rfl (F3.push _) (newsPush N3 _) (fun _ => hn3) hL3 (by rw [Heap.size_push]; exact Nat.lt_succ_self _) StrsAre.nil ?hlen ?turn ?fin
    (case hlen =>
      intro j _ zs hz
      have h1 := hz.length
      rw [h1, sizeLine_eq, List.length_map, List.length_map, List.length_take]
      have := Nat.min_le_right j u.length
      omega)
    (case turn =>
      intro D C i _ v ys oI oC mC k h tk hID hDC hv hi hP hm hd F9 N9
      clear F3 N3 hS
      obtain ⟨c, uc, hc, rfl⟩ := hv
      repeat' ((first | (k_unfold; (try dsimp only)) | (k_end; wrow_close) | walk1 | (dsimp only; walk1) | (leave1; walk_say "STEP leave1"; try dsimp only) | fail "no step"))
      exact ⟨(), _, _, rfl, by rw [enc_step hc, show Str.ofString "\\" ++ (⟨#[c]⟩ : Str) = S [92, c] by rw [bsl_eq]; exact s_app [92] [c]]; exact hP.append' (.cons _ _ .nil), by assumption, by assumption⟩)
    (case fin =>
      intro D C _ ys mC k h tk hID hDC hP hn PL F9 N9 hl
      refine finNone PL hn F9 N9 hl hDC fun h7 F7 N7 => ?_
      clear F9 N9 F3 N3 hS
      repeat' ((fail_if_success (with_reducible show wpAny _ _ (call (Value.builtin "str.join") _ _) _ _ _)); (first | (k_unfold; (try dsimp only)) | (k_end; wrow_close) | walk1 | (dsimp only; walk1) | (leave1; walk_say "STEP leave1"; try dsimp only) | fail "no step"))
      dsimp only [List.singleton_append, List.cons_append, List.nil_append]
      rw [List.take_of_length_le (show u.length ≤ (S u).cps.size from Nat.le_refl _)] at hP
      have hsl := flat_len (fun d => [92, d]) (fun _ => Nat.le_refl _) u
      refine join_listC (items := ys.toArray) (ys := ((u.map (fun d => [92, d])).map S)) ⟨_, (N7 _ (.head _)).1, rfl, k, rfl⟩ (by simpa using hP) (by decide +kernel) (by rw [List.length_map, List.length_map]; omega) fun t5 k5 => ?_
      rw [join_flat]
      have hjl : (S (u.map (fun d => [92, d])).flatten).length ≤ 40 := by
        show (u.map (fun d => [92, d])).flatten.length ≤ 40
        rw [List.length_flatten, List.map_map]
        have e9 : ((((u.map (fun d => [92, d])).map S)).map (·.length)).sum = (u.map (List.length ∘ (fun d => [92, d]))).sum := by rw [List.map_map, List.map_map]; rfl
        omega
      repeat' ((first | (k_unfold; (try dsimp only)) | (k_end; wrow_close) | walk1 | (dsimp only; walk1) | (leave1; walk_say "STEP leave1"; try dsimp only) | fail "no step"))
      rename Fr h₀ L _ _ => kF
      rename News h₀ L _ _ => kN
      refine hret _ _ _ ⟨_, by rw [wr, if_neg (by simp [hne]), show Str.ofString "\n" = S [10] from nl_eq, s_app]; rfl⟩ kF (newsSub kN fun q hq => by repeat' (first | exact hq | refine List.Mem.tail _ ?_)))
end
end
section
section
variable {prog : Program} {w : World} {A : Around} {s : Shared} {h₀ : Heap} {L I : Nat} {m : Str → Option Value}
/-- what an element's evaluation hands on, where the ledger may grow -/
def GrowEnd {σ : Type} (h₀ : Heap) (L : Addr) (m : Str → Option Value) (I D C : Nat) (Led : σ → List (Addr × Obj)) (oI oC : Obj) (ys : List Value) (k : Nat) (P : σ → Prop) (s : Shared) (s' : Shared) : Prop :=
  ∃ c' h' tk', s' = { s with heap := h', toks := tk' } ∧ P c' ∧ Off I D C (Led c') ∧ Fr h₀ L h' m ∧ News h₀ L h' ((C, oC) :: (I, oI) :: (D, listOf ys.toArray k) :: Led c')
/-- one clause, no test, the ledger may grow -/
theorem lcGrow {σ : Type} {elt iter : Expr} {x : Str} {px : Pos} {scope : Scope} {cl : List (Str × Addr)} {pos : Pos} {env : Env} {E : Value → Shared → Prop} {use : Option (Value → Sem Unit)} {Q : Value → Shared → Prop} {s₂ : Shared} {n : Nat} {Pv : Nat → Value → Prop}
    (Led : σ → List (Addr × Obj)) (P : Nat → σ → List Value → Prop) (c₀ : σ) (hS : Src prog w A h₀ Led I n Pv s₂.heap)
    (hcell : ∀ y ∈ scope.names, y.2 ≠ .cell) (hkind : scope.kind = .function) (hx : scope.names.lookup x = some .local)
    (F : Fr h₀ L s₂.heap m) (N : News h₀ L s₂.heap (Led c₀)) (hadr : ∀ q ∈ Led c₀, q.1 < I) (hL : L < I) (hI : I < s₂.heap.objs.size) (hP : P 0 c₀ [])
    (hlen : ∀ i c ys, P i c ys → ys.length ≤ sizeLine)
    (turn : ∀ (D C : Nat) i c v ys oI oC mC k h tk, I < D → D < C → Off I D C (Led c) → Pv i v → i < n → P i c ys → mC x = some v → DNs oC mC → Fr h₀ L h m → News h₀ L h ((C, oC) :: (I, oI) :: (D, listOf ys.toArray k) :: Led c) →
      wpAny (model prog w) A (eval elt (compEnvC scope cl C env)) (fun y s' => GrowEnd h₀ L m I D C Led oI oC ys k (fun c' => P (i + 1) c' (ys ++ [y])) s₂ s') (fun _ _ => False) { s₂ with heap := h, toks := tk })
    (fin : ∀ (D C : Nat) c ys mC k h tk, I < D → D < C → P n c ys → h.Ns C mC → Place h₀ L I D C → Fr h₀ L h m → News h₀ L h ((D, listOf ys.toArray k) :: Led c) → Off I D C (Led c) → compPost (model prog w) A E use Q (.ref D) C (.ok .next) { s₂ with heap := h, toks := tk }) :
    wpAny (model prog w) A (newList []) (fun acc s₃ => wpAny (model prog w) A (newFunctionEnv scope env.globals cl [] env.qual none .none (some env)) (fun cenv s₄ =>
      codeAny (model prog w) A (.compStart (.ListComp elt [⟨.Name x px, iter, [], 0⟩] scope pos) 0 (.ref I) acc { cenv with scope := relabel scope env }) (compPost (model prog w) A E use Q acc cenv.locals) s₄) E s₃) E s₂ := by
  obtain ⟨fp, St, W, hStI, hfp, hst⟩ := hS
  refine lcBlock W hcell hkind hst F N (hStI _ _ hst) fun (D : Nat) (C : Nat) oI oC mC h tk hD hC hst' hd B => ?_
  have fr : ∀ b, I ≤ b → h₀.get? b = none := fun b hb => Heap.get?_none_of_le (Nat.le_trans F.above (Nat.le_trans (Nat.le_of_lt hL) hb))
  have PL : Place h₀ L I D C := ⟨by omega, by omega, by omega, fr _ (by omega), fr _ (by omega), fr _ (by omega), by omega, by omega, by omega⟩
  have hoff0 : Off I D C (Led c₀) := fun q hq => ⟨Nat.ne_of_lt (hadr q hq), Nat.ne_of_lt (Nat.lt_trans (hadr q hq) (show I < D by omega)), Nat.ne_of_lt (Nat.lt_trans (hadr q hq) (show I < C by omega))⟩
  refine compLoopG (σ := { c : σ // Off I D C (Led c) }) (s := s₂) (fun c => Led c.1) (fun _ => True) (fun i c ys => P i c.1 ys) W hStI ?_ (fun c => c.2) PL (compTurn_list1 elt (.Name x px) iter scope pos (.ref I) (.ref D) (compEnvC scope cl C env)) (lookup_relabel_local hx) (by simp [compEnvC, relabel, hkind]) rfl (fun _ _ _ => trivial) ?_ ?_ (c := ⟨c₀, hoff0⟩) hst' hP ⟨hd, trivial⟩ B
  · intro b hb
    rcases hfp b hb with e | ⟨o, ho⟩ | e
    · exact .inl e
    · exact .inr (.inl ⟨o, fun c => ho c.1⟩)
    · exact .inr (.inr e)
  · rintro i ⟨c, hoff⟩ v ys oI oC mC h tk hv hi hP' hm hd B
    obtain ⟨k, N'⟩ := B.news PL
    refine contPlain (k := k) (σ := { c : σ // Off I D C (Led c) }) (Led := fun c => Led c.1) (P := fun c ys => P (i + 1) c.1 ys) PL (fun c => c.2) ⟨hd, trivial⟩ (hlen _ _ _ hP') (wpAny_mono (turn D C i c v ys oI oC mC k h tk (by omega) (by omega) hoff hv hi hP' hm.1 hd B.fr N') (fun y s' hy => ?_) fun _ _ f => f)
    obtain ⟨c', h', tk', e, hP2, hoff2, F2, N2⟩ := hy
    exact ⟨⟨c', hoff2⟩, h', tk', e, hP2, F2, N2⟩
  · rintro ⟨c, hoff⟩ ys oC mC h tk hP' hd F' N' hacc hown
    obtain ⟨k, ha⟩ := hacc
    refine fin D C c ys mC k h tk (by omega) (by omega) hP' (hd.1.ns hown) PL F' (fun p hp => ?_) hoff
    rcases List.mem_cons.mp hp with rfl | hp
    · exact ⟨ha, PL.DL, PL.D0⟩
    · exact N' p hp
theorem finAssign' {C D : Nat} {led : List (Addr × Obj)} {oD : Obj} {mC : Str → Option Value} {h : Heap} {tk : Nat} {s₂ : Shared} {E : Value → Shared → Prop} {Q : Value → Shared → Prop} {env : Env} {y : Str} {py : Pos} (PL : Place h₀ L I D C) (hn : h.Ns C mC) (F : Fr h₀ L h m) (N : News h₀ L h ((D, oD) :: led)) (hl : Off I D C led)
    (hloc : env.locals = L) (hy : env.kindOf y = some .local) (hk : env.scope.kind = .function)
    (hQ : ∀ h', Fr h₀ L h' (fun z => if z = y then some (.ref D) else m z) → News h₀ L h' ((D, oD) :: led) → Q .none { s₂ with heap := h', toks := tk + 1 }) :
    compPost (model prog w) A E (some (assign (.Name y py) env)) Q (.ref D) C (.ok .next) { s₂ with heap := h, toks := tk } := by
  show wpAny _ _ (assign (.Name y py) env (.ref D)) _ _ _
  refine wpAny_assign_Name (wpAny_storeName_local hy (by rw [hloc]; exact F.ns) (fun h1 hn1 hs1 => ?_) (by rw [hk]; rfl))
  rw [hloc] at hn1 hs1
  refine ⟨mC, hn.sameBut hs1 PL.CL, fun h2 hs2 => ?_⟩
  have k2 : ∀ b o, b ≠ C → h1.get? b = some o → h2.get? b = some o := fun b o hb e => (hs2.2 b hb).trans e
  refine hQ h2 (frKeep (F.set hn1 hs1) PL.CL PL.C0 k2) (newsKeep (N.set hs1) (fun p hp => ?_) k2)
  rcases List.mem_cons.mp hp with rfl | hp
  · exact PL.DC
  · exact (hl p hp).2.2
end
end
section
open PySem PySem.W PyProof.Rows PySem.Calls
/-- one sign met: its own counter, and those of the others -/
def stepC (met : Nat) (cs : Nat → Int × Int) (d : Nat) : Int × Int :=
  if d = met then ((cs met).1 + 1, (cs met).2) else if (cs d).1 < (cs met).1 + 1 then cs d else if (cs d).1 = (cs met).1 + 1 then ((cs d).1, (cs d).2 + (cs met).2) else ((cs met).1 + 1, (cs met).2)
def countC (u : List Nat) : Nat → Int × Int := u.foldl (fun cs met => stepC met cs) (fun _ => (1, 1))
/-- a counter as it lies: its address, its two ints -/
structure Cell where
  a : Nat
  v : Int × Int
  s1 : Tok
  s2 : Tok
def Cell.row (r : Cell) : Addr × Obj := (r.a, ({ cls := .type "tuple", data := .seq #[.int r.v.1 r.s1, .int r.v.2 r.s2] } : Obj))
def rowsV (rs : List Cell) : List Value := rs.map fun r => .ref r.a
def rowsL (rs : List Cell) : List (Addr × Obj) := rs.map Cell.row
theorem rowsV_app (rs : List Cell) (r : Cell) : rowsV (rs ++ [r]) = rowsV rs ++ [.ref r.a] := by simp [rowsV]
theorem rowsL_app (rs : List Cell) (r : Cell) (l : List (Addr × Obj)) : ∀ q ∈ rowsL (rs ++ [r]) ++ l, q = r.row ∨ q ∈ rowsL rs ++ l := by
  intro q hq
  rw [rowsL, List.map_append, List.append_assoc] at hq
  rcases List.mem_append.mp hq with h | h
  · exact .inr (List.mem_append_left _ h)
  · rcases List.mem_append.mp h with h | h
    · exact .inl (by simpa using h)
    · exact .inr (List.mem_append_right _ h)
theorem rows_get {rs : List Cell} {vs : List (Int × Int)} (h : rs.map Cell.v = vs) {k : Nat} {x : Int × Int} (hx : vs[k]? = some x) : ∃ r, rs[k]? = some r ∧ r.v = x ∧ r ∈ rs ∧ (rowsV rs)[k]? = some (.ref r.a) := by
  subst h
  rw [List.getElem?_map] at hx
  cases hr : rs[k]? with
  | none => rw [hr] at hx; cases hx
  | some r => rw [hr] at hx; exact ⟨r, rfl, Option.some.inj hx, List.mem_of_getElem? hr, by unfold rowsV; rw [List.getElem?_map, hr]; rfl⟩
theorem rows_mem {rs : List Cell} {r : Cell} (h : r ∈ rs) (l : List (Addr × Obj)) : r.row ∈ rowsL rs ++ l := List.mem_append_left _ (List.mem_map_of_mem h)
theorem cell_head {h₀ h : Heap} {L a : Nat} {x y : Int} {s1 s2 : Tok} {l : List (Addr × Obj)} (N : News h₀ L h ((a, ({ cls := .type "tuple", data := .seq #[.int x s1, .int y s2] } : Obj)) :: l)) : ∃ r : Cell, r.a = a ∧ r.v = (x, y) ∧ News h₀ L h (r.row :: l) :=
  ⟨⟨a, (x, y), s1, s2⟩, rfl, rfl, N⟩
/-- where a sign stands among the letters -/
def At1 (ls : List Nat) (d k : Nat) : Prop := ls[k]? = some d ∧ ∀ j, j < k → ls[j]? ≠ some d
theorem at1_of {a b c d : Nat} (h : a ≠ b ∧ a ≠ c ∧ b ≠ c) (hd : d ∈ [a, b, c]) : ∃ k, k < 3 ∧ At1 [a, b, c] d k := by
  obtain ⟨h1, h2, h3⟩ := h
  simp only [List.mem_cons, List.not_mem_nil, or_false] at hd
  rcases hd with rfl | rfl | rfl
  · exact ⟨0, by omega, rfl, fun j hj => by omega⟩
  · exact ⟨1, by omega, rfl, fun j hj => by
      match j, hj with
      | 0, _ => simp [h1]⟩
  · exact ⟨2, by omega, rfl, fun j hj => by
      match j, hj with
      | 0, _ => simp [h2]
      | 1, _ => simp [h3]⟩
theorem index_at {prog : Program} {w : World} {A : Around} {E : Value → Shared → Prop} {s : Shared} {ls : List Nat} {d k : Nat} {t u : Tok} {Q : Value → Shared → Prop} (h : At1 ls d k) (hQ : ∀ t' k', Q (.int (k : Int) t') { s with toks := k' }) :
    wpAny (model prog w) A (call (.builtin "str.index") [.str (S ls) t, .str (S [d]) u]) Q E s := by
  rcases StrLaws.occ_head_from (S ls) (S [d]) 0 1 (Nat.le_refl _) with ⟨e, h0⟩ | ⟨k', r, e, _, hat, hno⟩
  · exact absurd (at_one.mpr (by simpa using h.1)) (h0 k (Nat.zero_le _))
  · have hk : k' = k := by
      have h1 : ls[k']? = some d := by simpa using at_one.mp hat
      rcases Nat.lt_trichotomy k' k with q | q | q
      · exact absurd h1 (h.2 k' q)
      · exact q
      · exact absurd (at_one.mpr (by simpa using h.1)) (hno k (Nat.zero_le _) q)
    subst hk
    refine call_gives F.slot_str_index (typeIs_str _ _ _) F.entry_str_index (F.args_str_index_2 _ _) (PySem.gives_str_index _ _ _ _ k' r e) ?_
    exact hQ _ _
section
theorem counters_ok (w : World) (u : List Nat) (e a b c : Nat) (t1 t2 t3 : Tok) (hu : u.length < 8) (hul : ∀ d ∈ u, d ∈ [a, b, c]) (he : e ∈ [a, b, c]) (hab : a ≠ b ∧ a ≠ c ∧ b ≠ c) (news : List (Addr × Obj)) :
    CtrN w 4 104 [.str (S u) t1, .str (S [e]) t2, .str (S [a, b, c]) t3] news (fun v n' => ∃ r : Cell, r.v = countC u e ∧ v = .ref r.a ∧ n' = r.row :: news) := by
  obtain ⟨ls, hls⟩ : ∃ ls, ls = [a, b, c] := ⟨_, rfl⟩
  have hl3 : ls.length = 3 := by rw [hls]; rfl
  rw [← hls]
  unfold CtrN
  k_fill
  intro p loose mean mg mb dp un gd cn cs ad ccd cl outer A₀ base h₀ L m s Q E X B F N T CH hk hdp hun hret
  w_on
  refine wpAny_call ?_
  k_dflt (refine' code_def ?k1 ?k2 ?k3 ?k4 ?k5 ?kA ?kF ?kK ?k6 ?k7 ?k8 ?k9 ?kB ?_ ?c2 ?c3 ?c4 ?c5; (case kA => exact rfl); (case kF => exact rfl); (case kK => assumption); (case k1 => k_asm); (case k2 => k_asm); (case k3 => k_asm); (case k4 => k_asm); (case k5 => k_asm); (case k6 => k_is); (case k7 => k_is); (case k8 => (show dp < recursionLimit; omega)); (case k9 => exact BindsTo.of_eq (binds := [(Str.ofString "word", Value.str (S u) t1), (Str.ofString "letter", Value.str (S [e]) t2), (Str.ofString "letters", Value.str (S ls) t3)]) rfl); (case c5 => decide); (case kB => exact locs rfl); (case c2 => exact rfl); (case c3 => exact rfl); (case c4 => exact rfl); k_whole; intro g' L' h' FG' F' N' B' X' T'; (try dsimp only); (try k_lift B'); (try k_fold))
  repeat' ((fail_if_success (with_reducible show wpAny _ _ (exec (Stmt.Assign _ (Expr.ListComp _ _ _ _) _) _) _ _ _)); (first | (k_unfold; (try dsimp only)) | (k_end; wrow_close) | walk1 | (dsimp only; walk1) | (leave1; walk_say "STEP leave1"; try dsimp only) | fail "no step"))
  try refine flat (s1 := s) fun tkZ1 => ?_
  refine assignLC (by rfl) (by rfl) (by rfl) (by decide) (fun _ => rfl) ?_
  repeat' ((fail_if_success (with_reducible show wpAny _ _ (pyIter _) _ _ _)); (first | (k_unfold; (try dsimp only)) | (k_end; wrow_close) | walk1 | (dsimp only; walk1) | (leave1; walk_say "STEP leave1"; try dsimp only) | fail "no step"))
  try refine flat (s1 := s) fun tkZ2 => ?_
  have hL3 := F'.ns.lt
  have hn3 := news_lt N'
  refine src_str (Led := fun (rs : List Cell) => rowsL rs ++ news) (h₀ := g') (by rfl) fun o hS => ?_
  refine lcGrow (Led := fun (rs : List Cell) => rowsL rs ++ news) (P := fun i rs ys => ys = rowsV rs ∧ rs.map Cell.v = (ls.take i).map fun _ => ((1 : Int), (1 : Int))) [] hS (by decide) rfl rfl (F'.push _) (newsPush N' _) hn3 hL3 (by rw [Heap.size_push]; exact Nat.lt_succ_self _) ⟨rfl, rfl⟩ ?hlen ?turn ?fin
  (case hlen =>
    rintro j rs ys ⟨rfl, h2⟩
    have h3 := congrArg List.length h2
    rw [List.length_map, List.length_map, List.length_take] at h3
    rw [sizeLine_eq, rowsV, List.length_map]
    omega)
  (case turn =>
    intro D C i rs v ys oI oC mC k h tk hID hDC hoff hv hi hP hm hd F9 N9
    clear F' N' hS
    obtain ⟨c, uc, hc, rfl⟩ := hv
    repeat' ((first | (k_unfold; (try dsimp only)) | (k_end; wrow_close) | walk1 | (dsimp only; walk1) | (leave1; walk_say "STEP leave1"; try dsimp only) | fail "no step"))
    rename (_ < _ ∧ _ < _ ∧ _ < _ ∧ AllLt _ _) => lT
    rename News g' L' _ _ => N3
    obtain ⟨r, ra, rv, N3⟩ := cell_head N3
    refine ⟨rs ++ [r], _, _, rfl, ⟨?_, ?_⟩, ?_, by assumption, newsSub N3 ?_⟩
    · rw [rowsV_app, ← hP.1, ra]
    · rw [List.map_append, hP.2, List.take_add_one, show ls[i]? = some c by simpa using hc]; simp [rv]
    · intro q hq
      rcases rowsL_app _ _ _ q hq with rfl | hq
      · show r.a ≠ _ ∧ r.a ≠ _ ∧ r.a ≠ _
        rw [ra]
        exact ⟨Nat.ne_of_gt lT.2.1, Nat.ne_of_gt lT.2.2.1, Nat.ne_of_gt lT.1⟩
      · exact hoff q hq
    · intro q hq
      simp only [List.mem_cons] at hq
      rcases hq with rfl | rfl | rfl | hq
      · exact .tail _ (.head _)
      · exact .tail _ (.tail _ (.head _))
      · exact .tail _ (.tail _ (.tail _ (.head _)))
      · rcases rowsL_app _ _ _ q hq with rfl | hq
        · exact .head _
        · exact .tail _ (.tail _ (.tail _ (.tail _ hq))))
  (case fin =>
    intro D C rs ys mC k h tk hID hDC hP hn PL F9 N9 hl
    refine finAssign' PL hn F9 N9 hl rfl rfl rfl fun h7 F7 N7 => ?_
    clear F9 N9 F' N' hS
    have hC := CH.1.keeps FG'.keep
    repeat' ((fail_if_success (with_reducible show wpAny _ _ (exec (Stmt.For _ _ _ _ _) _) _ _ _)); (first | (k_unfold; (try dsimp only)) | (k_end; wrow_close) | walk1 | (dsimp only; walk1) | (leave1; walk_say "STEP leave1"; try dsimp only) | fail "no step"))
    try refine flat (s1 := s) fun tkZ3 => ?_
    rename Fr g' L' _ _ => F8
    rename News g' L' _ _ => N8
    with_unfolding_all refine' For_invVF F8 ?k1 ?k2 ?_
    (case k1 => exact rfl)
    (case k2 => exact rfl)
    repeat' ((fail_if_success (with_reducible show wpAny _ _ (pyIter _) _ _ _)); (first | (k_unfold; (try dsimp only)) | (k_end; wrow_close) | walk1 | (dsimp only; walk1) | (leave1; walk_say "STEP leave1"; try dsimp only) | fail "no step"))
    try refine flat (s1 := s) fun tkZ4 => ?_
    have hL8 := F8.ns.lt
    have hn8 := news_lt N8
    obtain ⟨rfl, hP2⟩ := hP
    rw [List.take_of_length_le (show ls.length ≤ (S ls).cps.size from Nat.le_refl _)] at hP2
    refine src_str (Led := fun (c : Nat × Nat × List Cell) => (c.1, listOf (rowsV c.2.2).toArray c.2.1) :: (rowsL c.2.2 ++ news)) (h₀ := g') (by rfl) fun o8 hS8 => ?_
    refine forSrc (σ := Nat × Nat × List Cell) _ (mu := fun c y => if y = Str.ofString "counters" then some (.ref c.1) else if y = Str.ofString "letters" then some (.str (S ls) t3) else if y = Str.ofString "letter" then some (.str (S [e]) t2) else none)
      (kept := [Str.ofString "counters", Str.ofString "letters", Str.ofString "letter"]) (P := fun i c => c.2.2.map Cell.v = ls.map (countC (u.take i))) (D, k, rs) hS8 (F8.push _) (newsPush N8 _) hL8 ?hoffA ?hmA ?hPA ?turnA ?doneA
    (case hoffA => exact fun q hq => Nat.ne_of_lt (hn8 q hq))
    (case hmA => repeat' (first | exact List.forall_mem_nil _ | refine List.forall_mem_cons.mpr ⟨by with_unfolding_all rfl, ?_⟩))
    (case hPA => exact hP2)
    (case turnA =>
      rintro ⟨K, nK, rs⟩ i v uf h tk oI hv hi hP hoff F9 N9
      clear F8 N8 hS8
      dsimp only at hP hoff N9
      obtain ⟨d, ud, hd, rfl⟩ := hv
      have hdu : u[i]? = some d := by simpa using hd
      have hdl := hul d (List.mem_of_getElem? hdu)
      obtain ⟨kd, hk3, hkd⟩ := at1_of hab hdl
      rw [← hls] at hkd
      repeat' ((fail_if_success (with_reducible show wpAny _ _ (call (Value.builtin "str.index") _ _) _ _ _)); (first | (k_unfold; (try dsimp only)) | (k_end; wrow_close) | walk1 | (dsimp only; walk1) | (leave1; walk_say "STEP leave1"; try dsimp only) | fail "no step"))
      try refine flat (s1 := s) fun tkZ5 => ?_
      refine index_at hkd fun t7 k7 => ?_
      repeat' ((fail_if_success (with_reducible show wpAny _ _ (subscriptTail _ _ _ _) _ _ _)); (first | (k_unfold; (try dsimp only)) | (k_end; wrow_close) | walk1 | (dsimp only; walk1) | (leave1; walk_say "STEP leave1"; try dsimp only) | fail "no step"))
      obtain ⟨r, _, rv, rm, rV⟩ := rows_get hP (show (ls.map (countC (u.take i)))[kd]? = some (countC (u.take i) d) by rw [List.getElem?_map, hkd.1]; rfl)
      rename Fr g' L' _ _ => F10
      rename News g' L' _ _ => N10
      refine item_litK (vs := rowsV rs) (k := (kd : Int)) ⟨_, (N10 (K, _) (by k_mem)).1, rfl, nK, rfl⟩ (by omega) (by omega) (by simpa using rV) ?_
      replace N10 := news_cons (N10 r.row (.tail _ (.tail _ (rows_mem rm _)))) N10
      repeat' ((fail_if_success (with_reducible show wpAny _ _ (exec (Stmt.For _ _ _ _ _) _) _ _ _)); (first | (k_unfold; (try dsimp only)) | (k_end; wrow_close) | walk1 | (dsimp only; walk1) | (leave1; walk_say "STEP leave1"; try dsimp only) | fail "no step"))
      try refine flat (s1 := s) fun tkZ6 => ?_
      rename_i fr h10 lF h11 F11 N11
      with_unfolding_all refine' For_invVF F11 ?k1 ?k2 ?_
      (case k1 => exact rfl)
      (case k2 => exact rfl)
      repeat' ((fail_if_success (with_reducible show wpAny _ _ (pyIter _) _ _ _)); (first | (k_unfold; (try dsimp only)) | (k_end; wrow_close) | walk1 | (dsimp only; walk1) | (leave1; walk_say "STEP leave1"; try dsimp only) | fail "no step"))
      try refine flat (s1 := s) fun tkZ7 => ?_
      have hL11 := F11.ns.lt
      have hn11 := news_lt N11
      generalize h7.objs.size = A1 at hoff N11 lF hn11 ⊢
      have lF1 : ∀ q ∈ rowsL rs ++ news, q.1 < fr := allLt_get lF.2.2.2
      refine src_str (Led := fun (c : Nat × List Cell) => (fr, listOf (rowsV c.2).toArray c.1) :: (A1, oI) :: (K, listOf (rowsV rs).toArray nK) :: (rowsL c.2 ++ (rowsL rs ++ news))) (h₀ := g') (by rfl) fun o12 hS12 => ?_
      refine forSrc (σ := Nat × List Cell) _ (mu := fun _ y => if y = Str.ofString "size" then some (.int r.v.1 r.s1) else if y = Str.ofString "count" then some (.int r.v.2 r.s2) else if y = Str.ofString "met" then some (.str (S [d]) ud) else if y = Str.ofString "fresh" then some (.ref fr) else if y = Str.ofString "counters" then some (.ref K) else if y = Str.ofString "letters" then some (.str (S ls) t3) else if y = Str.ofString "letter" then some (.str (S [e]) t2) else none)
        (kept := [Str.ofString "size", Str.ofString "count", Str.ofString "met", Str.ofString "fresh", Str.ofString "counters", Str.ofString "letters", Str.ofString "letter"]) (P := fun l c => c.2.map Cell.v = (ls.take l).map (stepC d (countC (u.take i))) ∧ ∀ q ∈ rowsL c.2 ++ (rowsL rs ++ news), q.1 ≠ fr ∧ q.1 ≠ A1) (0, []) hS12 (F11.push _) (newsPush (newsSub N11 ?hsub) _) hL11 ?hoffB ?hmB ?hPB ?turnB ?doneB
      (case hsub =>
        intro q hq
        simp only [List.mem_cons] at hq
        rcases hq with rfl | rfl | rfl | hq
        · exact .head _
        · exact .tail _ (.tail _ (.head _))
        · exact .tail _ (.tail _ (.tail _ (.head _)))
        · exact .tail _ (.tail _ (.tail _ (.tail _ hq))))
      (case hoffB =>
        intro q hq
        simp only [List.mem_cons] at hq
        refine Nat.ne_of_lt (hn11 q ?_)
        rcases hq with rfl | rfl | rfl | hq
        · exact .head _
        · exact .tail _ (.tail _ (.head _))
        · exact .tail _ (.tail _ (.tail _ (.head _)))
        · exact .tail _ (.tail _ (.tail _ (.tail _ hq))))
      (case hmB => repeat' (first | exact List.forall_mem_nil _ | refine List.forall_mem_cons.mpr ⟨by with_unfolding_all rfl, ?_⟩))
      (case hPB => exact ⟨rfl, fun q hq => ⟨Nat.ne_of_lt (lF1 q hq), hoff q (.tail _ hq)⟩⟩)
      (case turnB =>
        rintro ⟨nF, rs2⟩ l v uf2 h12 tk12 oI2 hv2 hl2 hP2 hoff2 F12 N12
        clear F11 N11 hS12
        dsimp only at hP2 hoff2 N12
        obtain ⟨d2, ud2, hd2, rfl⟩ := hv2
        have hdl2 : ls[l]? = some d2 := by simpa using hd2
        obtain ⟨kd2, hk32, hkd2⟩ := at1_of hab (show d2 ∈ [a, b, c] by rw [← hls]; exact List.mem_of_getElem? hdl2)
        rw [← hls] at hkd2
        repeat' ((fail_if_success (with_reducible show wpAny _ _ (call (Value.builtin "str.index") _ _) _ _ _)); (first | (k_unfold; (try dsimp only)) | (k_end; wrow_close) | walk1 | (dsimp only; walk1) | (leave1; walk_say "STEP leave1"; try dsimp only) | fail "no step"))
        try refine flat (s1 := s) fun tkZ8 => ?_
        refine index_at hkd2 fun t7 k7 => ?_
        repeat' ((fail_if_success (with_reducible show wpAny _ _ (subscriptTail _ _ _ _) _ _ _)); (first | (k_unfold; (try dsimp only)) | (k_end; wrow_close) | walk1 | (dsimp only; walk1) | (leave1; walk_say "STEP leave1"; try dsimp only) | fail "no step"))
        obtain ⟨r2, _, rv2, rm2, rV2⟩ := rows_get hP (show (ls.map (countC (u.take i)))[kd2]? = some (countC (u.take i) d2) by rw [List.getElem?_map, hkd2.1]; rfl)
        rename Fr g' L' _ _ => F13
        rename News g' L' _ _ => N13
        refine item_litK (vs := rowsV rs) (k := (kd2 : Int)) ⟨_, (N13 (K, _) (by k_mem)).1, rfl, nK, rfl⟩ (by omega) (by omega) (by simpa using rV2) ?_
        replace N13 := news_cons (N13 r2.row (.tail _ (.tail _ (.tail _ (.tail _ (List.mem_append_right _ (rows_mem rm2 _))))))) N13
        repeat' ((fail_if_success (with_reducible show wpAny _ _ (call (Value.builtin "list.append") _ _) _ _ _)); (first | (k_unfold; (try dsimp only)) | (k_end; wrow_close) | walk1 | (dsimp only; walk1) | (leave1; walk_say "STEP leave1"; try dsimp only) | fail "no step"))
        try refine flat (s1 := s) fun tkZ9 => ?_
        all_goals (
          rename Fr g' L' _ _ => F14
          rename News g' L' _ _ => N14
          rename (r2.row.fst < _ ∧ _) => lT
          obtain ⟨r3, ra3, rv3, N15⟩ := cell_head N14
          have hval : r3.v = stepC d (countC (u.take i)) d2 := by
            unfold stepC
            first
            | (rename ((_ == S [d]) = true) => hb
               rw [if_pos (s1_beq.mp hb), rv3, ← rv])
            | (rename ((_ == S [d]) = false) => hb
               have hb' : (S [d2] == S [d]) = false := hb
               rw [if_neg (fun q => by rw [s1_beq.mpr q] at hb'; cases hb'), ← rv, ← rv2, rv3]
               first
               | (rename (r2.v.fst < r.v.fst + 1) => hlt
                  rw [if_pos hlt])
               | (rename (¬ r2.v.fst < r.v.fst + 1) => hlt
                  rw [if_neg hlt]
                  first
                  | (rename (r2.v.fst = r.v.fst + 1) => he2
                     rw [if_pos he2])
                  | (rename (r2.v.fst ≠ r.v.fst + 1) => he2
                     rw [if_neg he2])))
          clear rv3
          subst ra3
          have hT1 := ltN lT.2.1
          have hT2 := ltN lT.2.2.1
          have hT3 := ltN lT.2.2.2.1
          refine append_K F14 N15 (.tail (Nat.ne_of_gt hT2) (.tail (hP2.2 r2.row (List.mem_append_right _ (rows_mem rm2 _))).1 (.tail (Ne.symm (hoff2 _ (.head _))) (.head ?_)))) (fun h15 F15 N16 => ?_) (by
            have h5 := congrArg List.length hP2.1
            rw [List.length_map, List.length_map, List.length_take] at h5
            rw [sizeLine_eq, rowsV, List.size_toArray, List.length_map]; omega)
          · exact List.forall_mem_cons.mpr ⟨Nat.ne_of_lt lF.2.1, List.forall_mem_cons.mpr ⟨Nat.ne_of_lt lF.2.2.1, fun q hq => (hP2.2 q hq).1⟩⟩
          clear F14 N14 N15
          repeat' ((first | (k_unfold; (try dsimp only)) | (k_end; wrow_close) | walk1 | (dsimp only; walk1) | (leave1; walk_say "STEP leave1"; try dsimp only) | fail "no step"))
          rename Fr g' L' _ _ => F16
          rw [List.push_toArray, ← rowsV_app] at N16
          have happ : ∀ q ∈ rowsL (rs2 ++ [r3]) ++ (rowsL rs ++ news), q = r3.row ∨ q ∈ rowsL rs2 ++ (rowsL rs ++ news) := rowsL_app _ _ _
          refine ⟨(nF + 1, rs2 ++ [r3]), _, _, _, rfl, ⟨?_, ?_⟩, ?_, ?_, F16, newsSub N16 ?_⟩
          · dsimp only
            rw [List.map_append, hP2.1, List.take_add_one, hdl2]; simp [hval]
          · intro q hq
            rcases happ q hq with rfl | hq
            · exact ⟨Nat.ne_of_gt hT2, Nat.ne_of_gt hT3⟩
            · exact hP2.2 q hq
          · intro q hq
            simp only [List.mem_cons] at hq
            rcases hq with rfl | rfl | rfl | hq
            · exact hoff2 (fr, listOf (rowsV rs2).toArray nF) (.head _)
            · exact hoff2 _ (.tail _ (.head _))
            · exact hoff2 _ (.tail _ (.tail _ (.head _)))
            · rcases happ q hq with rfl | hq
              · exact Nat.ne_of_gt hT1
              · exact hoff2 _ (.tail _ (.tail _ (.tail _ hq)))
          · repeat' (first | exact List.forall_mem_nil _ | refine List.forall_mem_cons.mpr ⟨by with_unfolding_all rfl, ?_⟩)
          · intro q hq
            simp only [List.mem_cons] at hq
            rcases hq with rfl | rfl | rfl | rfl | hq
            · exact .tail _ (.tail _ (.head _))
            · exact .tail _ (.tail _ (.tail _ (.head _)))
            · exact .tail _ (.tail _ (.tail _ (.tail _ (.head _))))
            · exact .tail _ (.tail _ (.tail _ (.tail _ (.tail _ (.head _)))))
            · rcases happ q hq with rfl | hq
              · exact .head _
              · exact .tail _ (.tail _ (.tail _ (.tail _ (.tail _ (.tail _ hq)))))))
      (case doneB =>
        rintro ⟨nF, rs2⟩ uf2 h12 tk12 hP2 F12 N12
        clear F11 N11 hS12
        dsimp only at hP2 N12 ⊢
        repeat' ((first | (k_unfold; (try dsimp only)) | (k_end; wrow_close) | walk1 | (dsimp only; walk1) | (leave1; walk_say "STEP leave1"; try dsimp only) | fail "no step"))
        rename Fr g' L' _ _ => F13
        rename News g' L' _ _ => N13
        rw [List.take_of_length_le (show ls.length ≤ (S ls).cps.size from Nat.le_refl _)] at hP2
        refine ⟨(fr, nF, rs2), _, _, _, rfl, ?_, ?_, ?_, F13, newsSub N13 ?_⟩
        · dsimp only
          rw [hP2.1, List.take_add_one, hdu]
          show _ = ls.map (countC (u.take i ++ [d]))
          unfold countC
          rw [List.foldl_append]; rfl
        · intro q hq
          simp only [List.mem_cons] at hq
          rcases hq with rfl | hq
          · exact Nat.ne_of_gt lF.2.1
          · refine (hP2.2 q ?_).2
            rcases List.mem_append.mp hq with hq | hq
            · exact List.mem_append_left _ hq
            · exact List.mem_append_right _ (List.mem_append_right _ hq)
        · repeat' (first | exact List.forall_mem_nil _ | refine List.forall_mem_cons.mpr ⟨by with_unfolding_all rfl, ?_⟩)
        · intro q hq
          simp only [List.mem_cons] at hq
          rcases hq with rfl | rfl | hq
          · exact .tail _ (.head _)
          · exact .head _
          · rcases List.mem_append.mp hq with hq | hq
            · exact .tail _ (.tail _ (.tail _ (List.mem_append_left _ hq)))
            · exact .tail _ (.tail _ (.tail _ (List.mem_append_right _ (List.mem_append_right _ hq))))))
    (case doneA =>
      rintro ⟨K, nK, rs⟩ uf h tk hP F9 N9
      clear F8 N8 hS8
      dsimp only at hP N9 ⊢
      rw [List.take_of_length_le (show u.length ≤ (S u).cps.size from Nat.le_refl _)] at hP
      obtain ⟨ke, hke3, hke⟩ := at1_of hab he
      rw [← hls] at hke
      repeat' ((fail_if_success (with_reducible show wpAny _ _ (call (Value.builtin "str.index") _ _) _ _ _)); (first | (k_unfold; (try dsimp only)) | (k_end; wrow_close) | walk1 | (dsimp only; walk1) | (leave1; walk_say "STEP leave1"; try dsimp only) | fail "no step"))
      try refine flat (s1 := s) fun tkZ10 => ?_
      refine index_at hke fun t7 k7 => ?_
      repeat' ((fail_if_success (with_reducible show wpAny _ _ (subscriptTail _ _ _ _) _ _ _)); (first | (k_unfold; (try dsimp only)) | (k_end; wrow_close) | walk1 | (dsimp only; walk1) | (leave1; walk_say "STEP leave1"; try dsimp only) | fail "no step"))
      obtain ⟨r, _, rv, rm, rV⟩ := rows_get hP (show (ls.map (countC u))[ke]? = some (countC u e) by rw [List.getElem?_map, hke.1]; rfl)
      rename Fr g' L' _ _ => F10
      rename News g' L' _ _ => N10
      refine item_litK (vs := rowsV rs) (k := (ke : Int)) ⟨_, (N10 (K, _) (by k_mem)).1, rfl, nK, rfl⟩ (by omega) (by omega) (by simpa using rV) ?_
      replace N10 := news_cons (N10 r.row (.tail _ (rows_mem rm _))) N10
      repeat' ((first | (k_unfold; (try dsimp only)) | (k_end; wrow_close) | walk1 | (dsimp only; walk1) | (leave1; walk_say "STEP leave1"; try dsimp only) | fail "no step"))
      rename Fr h₀ L _ _ => kF
      rename News h₀ L _ _ => kN
      refine hret _ _ _ _ ⟨r, rv, rfl, rfl⟩ kF (newsSub kN ?_)
      intro q hq
      rcases List.mem_cons.mp hq with rfl | hq
      · exact .head _
      · exact .tail _ (.tail _ (List.mem_append_right _ hq))))
end
end
section
open PySem PySem.W PyProof.Rows PySem.Calls
theorem encQ_count : ∀ u : List Nat, (encQ u).count 10 = u.count 10
  | [] => rfl
  | d :: u => by
    have h := encQ_count u
    show ((if d = 34 ∨ d = 92 then [92, d] else [d]) ++ encQ u).count 10 = _
    rw [List.count_append, h, List.count_cons]
    by_cases hd : d = 34 ∨ d = 92
    · rw [if_pos hd]
      simp [List.count_cons]; omega
    · rw [if_neg hd]
      simp [List.count_cons]; omega
theorem encB_count : ∀ u : List Nat, (encB u).count 10 = u.count 10
  | [] => rfl
  | d :: u => by
    have h := encB_count u
    show ([92, d] ++ encB u).count 10 = _
    rw [List.count_append, h, List.count_cons]
    simp [List.count_cons]; omega
theorem tok_wr (u : List Nat) (b : Bool) (more : List Nat) : TokIs (wr u b ++ more) u (wr u b).length ((wr u b).count 10) := by
  unfold wr
  by_cases h : b = true ∨ u = []
  · rw [if_pos h]
    refine .inl ⟨more, by simp, by simp, ?_⟩
    rw [List.count_cons, List.count_append, encQ_count]; simp
  · rw [if_neg h]
    cases u with
    | nil => exact absurd (.inr rfl) h
    | cons d v =>
      refine .inr (.inl ⟨d, v, more, rfl, ?_, ?_, ?_⟩)
      · show [92, d] ++ encB v ++ [10] ++ more = _
        simp
      · show ([92, d] ++ encB v ++ [10]).length = _
        simp
      · rw [List.count_append, encB_count]; simp
theorem drop_flat : ∀ (wl : List (List Nat)) (j : Nat), wl.flatten.drop (wl.take j).flatten.length = (wl.drop j).flatten
  | wl, 0 => by simp
  | [], j + 1 => by simp
  | w :: wl, j + 1 => by
    have h := drop_flat wl j
    rw [List.take_succ_cons, List.flatten_cons, List.flatten_cons, List.length_append, List.drop_succ_cons, ← h, ← List.drop_drop]
    simp
/-- the j-th word as get_token finds it -/
theorem tok_at {us : List (List Nat)} {xs : List Int} (hx : us.length ≤ xs.length) {j : Nat} (hj : j < us.length + 1) : ∃ u k cc, (us ++ [[]])[j]? = some u ∧ TokIs ((List.zipWith (fun u x => wr u ((x.fdiv 4).fmod 2 == 0)) us xs).flatten.drop ((List.zipWith (fun u x => wr u ((x.fdiv 4).fmod 2 == 0)) us xs).take j).flatten.length) u k cc ∧
    ((List.zipWith (fun u x => wr u ((x.fdiv 4).fmod 2 == 0)) us xs).take (j + 1)).flatten.length = ((List.zipWith (fun u x => wr u ((x.fdiv 4).fmod 2 == 0)) us xs).take j).flatten.length + k ∧
    ((List.zipWith (fun u x => wr u ((x.fdiv 4).fmod 2 == 0)) us xs).take (j + 1)).flatten.count 10 = ((List.zipWith (fun u x => wr u ((x.fdiv 4).fmod 2 == 0)) us xs).take j).flatten.count 10 + cc := by
  generalize hwl : List.zipWith (fun u x => wr u ((x.fdiv 4).fmod 2 == 0)) us xs = wl
  have hlen : wl.length = us.length := by rw [← hwl]; simp; omega
  rw [drop_flat]
  by_cases h : j < us.length
  · obtain ⟨u, hu⟩ : ∃ u, us[j]? = some u := ⟨_, List.getElem?_eq_getElem h⟩
    obtain ⟨x, hxj⟩ : ∃ x, xs[j]? = some x := ⟨_, List.getElem?_eq_getElem (by omega)⟩
    have hw : wl[j]? = some (wr u ((x.fdiv 4).fmod 2 == 0)) := by rw [← hwl, List.getElem?_zipWith, hu, hxj]
    have hd : wl.drop j = wr u ((x.fdiv 4).fmod 2 == 0) :: wl.drop (j + 1) := by
      obtain ⟨hj2, e⟩ := List.getElem?_eq_some_iff.mp hw
      rw [List.drop_eq_getElem_cons hj2, e]
    refine ⟨u, _, _, by rw [List.getElem?_append_left h]; exact hu, by rw [hd, List.flatten_cons]; exact tok_wr u _ _, ?_, ?_⟩
    · rw [List.take_add_one, hw]; simp
    · rw [List.take_add_one, hw]; simp
  · have hje : j = us.length := by omega
    subst hje
    refine ⟨[], 0, 0, by simp, .inr (.inr ⟨?_, rfl, rfl, rfl⟩), ?_, ?_⟩
    · rw [List.drop_of_length_le (by omega)]; rfl
    · rw [List.take_of_length_le (by omega), List.take_of_length_le (by omega)]; rfl
    · rw [List.take_of_length_le (by omega), List.take_of_length_le (by omega)]; rfl
end
section
open PySem PySem.W PyProof.Rows PySem.Calls
open List (Sublist)
/-- all words of a length, in order -/
def words (ls : List Nat) : Nat → List (List Nat)
  | 0 => [[]]
  | n + 1 => grow ls (words ls n)
/-- tells the longer from the shorter -/
def dst (x y u : List Nat) : Bool := !u.isSublist x && u.isSublist y
def D (ls x y : List Nat) (n : Nat) : List (List Nat) := (words ls n).filter (dst x y)
theorem words_len {ls : List Nat} : ∀ {n : Nat} {u : List Nat}, u ∈ words ls n → u.length = n
  | 0, u, h => by rw [List.mem_singleton.mp h]; rfl
  | n + 1, u, h => by
    obtain ⟨v, hv, hu⟩ := List.mem_flatMap.mp h
    obtain ⟨d, _, rfl⟩ := List.mem_map.mp hu
    rw [List.length_append, words_len hv]; rfl
theorem sub_iff {u x : List Nat} : u.isSublist x = true ↔ Sublist u x := List.isSublist_iff_sublist
theorem sub_pre {v x : List Nat} {d : Nat} (h : (v ++ [d]).isSublist x = true) : v.isSublist x = true := sub_iff.mpr ((List.sublist_append_left v [d]).trans (sub_iff.mp h))
/-- the frontier at a round -/
def fr (ls x : List Nat) : Nat → List (List Nat)
  | 0 => [[]]
  | n + 1 => grow ls ((words ls n).filter fun u => u.isSublist x)
theorem grow_filter (ls : List Nat) (p : List Nat → Bool) (hp : ∀ v d, p (v ++ [d]) = true → p v = true) : ∀ ws : List (List Nat), (grow ls (ws.filter p)).filter p = (grow ls ws).filter p
  | [] => rfl
  | w :: ws => by
    have ih := grow_filter ls p hp ws
    have e : grow ls (w :: ws) = (ls.map fun d => w ++ [d]) ++ grow ls ws := rfl
    rw [e, List.filter_append, ← ih]
    by_cases h : p w = true
    · rw [List.filter_cons, if_pos h]
      show ((ls.map fun d => w ++ [d]) ++ grow ls (ws.filter p)).filter p = _
      rw [List.filter_append]
    · rw [List.filter_cons, if_neg h]
      have : (ls.map fun d => w ++ [d]).filter p = [] := by
        rw [List.filter_eq_nil_iff]
        intro a ha hpa
        obtain ⟨d, _, rfl⟩ := List.mem_map.mp ha
        exact h (hp w d hpa)
      rw [this, List.nil_append]
theorem fr_common (ls x : List Nat) : ∀ n, (fr ls x n).filter (fun u => u.isSublist x) = (words ls n).filter fun u => u.isSublist x
  | 0 => rfl
  | n + 1 => grow_filter ls (fun u => u.isSublist x) (fun _ _ h => sub_pre h) (words ls n)
theorem grow_apart (ls x y : List Nat) : ∀ ws : List (List Nat), (∀ w ∈ ws, dst x y w = false) → ((grow ls (ws.filter fun u => u.isSublist x)).filter fun u => !u.isSublist x).filter (fun u => u.isSublist y) = (grow ls ws).filter (dst x y)
  | [], _ => rfl
  | w :: ws, h => by
    have ih := grow_apart ls x y ws fun v hv => h v (.tail _ hv)
    have hw := h w (.head _)
    have e : grow ls (w :: ws) = (ls.map fun d => w ++ [d]) ++ grow ls ws := rfl
    rw [e, List.filter_append, ← ih]
    by_cases hx : w.isSublist x = true
    · rw [List.filter_cons, if_pos hx]
      show ((((ls.map fun d => w ++ [d]) ++ grow ls (ws.filter _)).filter _).filter _) = _
      rw [List.filter_append, List.filter_append]
      congr 1
      rw [List.filter_filter]
      congr 1
      funext u
      simp [dst, Bool.and_comm]
    · rw [List.filter_cons, if_neg hx]
      have : (ls.map fun d => w ++ [d]).filter (dst x y) = [] := by
        rw [List.filter_eq_nil_iff]
        intro a ha hpa
        obtain ⟨d, _, rfl⟩ := List.mem_map.mp ha
        simp only [dst, Bool.and_eq_true] at hpa
        have h2 := sub_pre hpa.2
        simp [dst, hx, h2] at hw
      rw [this, List.nil_append]
theorem fr_apart (ls x y : List Nat) : ∀ n, (∀ j, j < n → D ls x y j = []) → ((fr ls x n).filter fun u => !u.isSublist x).filter (fun u => u.isSublist y) = D ls x y n
  | 0, _ => by
    show (([[]] : List (List Nat)).filter _).filter _ = [[]].filter _
    simp [dst]
  | n + 1, h => by
    refine grow_apart ls x y (words ls n) fun w hw => ?_
    have := h n (Nat.lt_succ_self n)
    rw [D, List.filter_eq_nil_iff] at this
    exact Bool.eq_false_iff.mpr (this w hw)
theorem apart_go {ls x y : List Nat} {k : Nat} (hk : D ls x y k ≠ []) : ∀ (n i : Nat), (∀ j, j < k → D ls x y j = []) → i ≤ k → k < i + n → apartGo x y ls n (fr ls x i) = D ls x y k
  | 0, i, _, h1, h2 => by omega
  | n + 1, i, h, h1, h2 => by
    have ha := fr_apart ls x y i fun j hj => h j (by omega)
    unfold apartGo
    rw [ha, fr_common]
    by_cases hi : i = k
    · subst hi
      rw [if_neg hk]
    · rw [if_pos (h i (by omega))]
      exact apart_go hk n (i + 1) h (by omega) (by omega)
theorem dst_iff {x y u : List Nat} : dst x y u = true ↔ Sublist u y ∧ ¬ Sublist u x := by
  unfold dst
  rw [Bool.and_eq_true, Bool.not_eq_true', sub_iff, ← Bool.not_eq_true, sub_iff]
  exact And.comm
theorem dst_mid {a : Nat} {p q u : List Nat} : (Sublist u (p ++ a :: q) ∧ ¬ Sublist u (p ++ q)) ↔ ∃ u1 u2, u = u1 ++ a :: u2 ∧ Sublist u1 p ∧ ¬ Sublist (u1 ++ [a]) p ∧ Sublist u2 q ∧ ¬ Sublist (a :: u2) q := by
  constructor
  · rintro ⟨h, hn⟩
    obtain ⟨v1, v2, rfl, h1, h2⟩ := List.sublist_append_iff.mp h
    rcases List.sublist_cons_iff.mp h2 with h3 | ⟨r, rfl, h3⟩
    · exact absurd (h1.append h3) hn
    · refine ⟨v1, r, rfl, h1, fun h4 => hn ?_, h3, fun h4 => hn (h1.append h4)⟩
      have := h4.append h3
      simpa using this
  · rintro ⟨u1, u2, rfl, h1, h2, h3, h4⟩
    refine ⟨h1.append (h3.cons_cons a), fun h => ?_⟩
    obtain ⟨v1, v2, e, g1, g2⟩ := List.sublist_append_iff.mp h
    rcases List.append_eq_append_iff.mp e with ⟨c, e1, e2⟩ | ⟨c, e1, e2⟩
    · cases c with
      | nil =>
        rw [List.nil_append] at e2
        rw [← e2] at g2; exact h4 g2
      | cons d c =>
        rw [List.cons_append, List.cons.injEq] at e2
        obtain ⟨rfl, _⟩ := e2
        rw [e1] at g1
        refine h2 (List.Sublist.trans ?_ g1)
        have : u1 ++ a :: c = (u1 ++ [a]) ++ c := by simp
        rw [this]; exact List.sublist_append_left _ _
    · rw [e2] at g2
      exact h4 ((List.sublist_append_right _ _).trans g2)
theorem dst_head {a : Nat} {p h : List Nat} : dst p (p ++ [a]) h = true ↔ ∃ u1, h = u1 ++ [a] ∧ Sublist u1 p ∧ ¬ Sublist (u1 ++ [a]) p := by
  rw [dst_iff]
  have := dst_mid (a := a) (p := p) (q := []) (u := h)
  rw [List.append_nil] at this
  rw [this]
  constructor
  · rintro ⟨u1, u2, rfl, h1, h2, h3, _⟩
    have e : u2 = [] := List.sublist_nil.mp h3
    subst e
    exact ⟨u1, rfl, h1, h2⟩
  · rintro ⟨u1, rfl, h1, h2⟩
    exact ⟨u1, [], rfl, h1, h2, List.Sublist.refl _, fun h => by cases h⟩
theorem dst_tail {a : Nat} {q t : List Nat} : dst q (a :: q) t = true ↔ ∃ u2, t = a :: u2 ∧ Sublist u2 q ∧ ¬ Sublist (a :: u2) q := by
  rw [dst_iff]
  have := dst_mid (a := a) (p := []) (q := q) (u := t)
  rw [List.nil_append, List.nil_append] at this
  rw [this]
  constructor
  · rintro ⟨u1, u2, rfl, h1, _, h3, h4⟩
    have e : u1 = [] := List.sublist_nil.mp h1
    subst e
    exact ⟨u2, rfl, h3, h4⟩
  · rintro ⟨u2, rfl, h3, h4⟩
    exact ⟨[], u2, rfl, List.Sublist.refl _, (fun h => by cases h), h3, h4⟩
theorem words_add (ls : List Nat) (i : Nat) : ∀ m, words ls (i + m) = (words ls i).flatMap fun h => (words ls m).map fun r => h ++ r
  | 0 => by
    show words ls i = _
    simp [words]
  | m + 1 => by
    show grow ls (words ls (i + m)) = _
    rw [words_add ls i m]
    unfold grow
    rw [List.flatMap_assoc]
    congr 1
    funext h
    show (List.map (fun r => h ++ r) (words ls m)).flatMap _ = (grow ls (words ls m)).map fun r => h ++ r
    unfold grow
    rw [List.flatMap_map, List.map_flatMap]
    congr 1
    funext r
    rw [List.map_map]
    congr 1
    funext d
    simp
/-- the words that tell the whole: a head and a tail, the letter once -/
theorem whole_at {ls p q : List Nat} {a i j : Nat} (hi : ∀ n, n < i → D ls p (p ++ [a]) n = []) (hj : ∀ n, n < j → D ls q (a :: q) n = []) {h r : List Nat} (hh : h ∈ words ls i) (m : Nat) (hm : j = m + 1) (hr : r ∈ words ls m) (hal : a ∈ ls)
    (hw : ∀ u n, u.length = n → (∀ d ∈ u, d ∈ ls) → u ∈ words ls n) (hwl : ∀ n u, u ∈ words ls n → ∀ d ∈ u, d ∈ ls) :
    dst (p ++ q) (p ++ [a] ++ q) (h ++ r) = (dst p (p ++ [a]) h && dst q (a :: q) (a :: r)) := by
  rw [Bool.eq_iff_iff, Bool.and_eq_true, dst_head, dst_tail, dst_iff, show p ++ [a] ++ q = p ++ a :: q by simp, dst_mid]
  have lh := words_len hh
  have lr := words_len hr
  constructor
  · rintro ⟨u1, u2, e, h1, h2, h3, h4⟩
    have hin : ∀ d ∈ u1 ++ a :: u2, d ∈ ls := by
      rw [← e]
      intro d hd
      rcases List.mem_append.mp hd with hd | hd
      · exact hwl _ _ hh d hd
      · exact hwl _ _ hr d hd
    have m1 : u1 ++ [a] ∈ D ls p (p ++ [a]) (u1.length + 1) := List.mem_filter.mpr ⟨hw _ _ (by simp) (fun d hd => by
      rcases List.mem_append.mp hd with hd | hd
      · exact hin d (List.mem_append_left _ hd)
      · rw [List.mem_singleton.mp hd]; exact hal), dst_head.mpr ⟨u1, rfl, h1, h2⟩⟩
    have m2 : a :: u2 ∈ D ls q (a :: q) (u2.length + 1) := List.mem_filter.mpr ⟨hw _ _ (by simp) (fun d hd => hin d (List.mem_append_right _ hd)), dst_tail.mpr ⟨u2, rfl, h3, h4⟩⟩
    have l1 : i ≤ u1.length + 1 := by
      rcases Nat.lt_or_ge (u1.length + 1) i with q | q
      · rw [hi _ q] at m1; cases m1
      · exact q
    have l2 : j ≤ u2.length + 1 := by
      rcases Nat.lt_or_ge (u2.length + 1) j with q | q
      · rw [hj _ q] at m2; cases m2
      · exact q
    have le := congrArg List.length e
    simp only [List.length_append, List.length_cons] at le
    have e2 : h ++ r = (u1 ++ [a]) ++ u2 := by rw [e]; simp
    obtain ⟨e3, e4⟩ := List.append_inj e2 (by simp; omega)
    exact ⟨⟨u1, e3, h1, h2⟩, ⟨u2, by rw [e4], h3, h4⟩⟩
  · rintro ⟨⟨u1, rfl, h1, h2⟩, ⟨u2, e2, h3, h4⟩⟩
    obtain rfl := (List.cons.inj e2).2
    exact ⟨u1, r, by simp, h1, h2, h3, h4⟩
theorem fm_congr {α β : Type} {f g : α → List β} : ∀ {l : List α}, (∀ x ∈ l, f x = g x) → l.flatMap f = l.flatMap g
  | [], _ => rfl
  | x :: l, h => by
    rw [List.flatMap_cons, List.flatMap_cons, h x (.head _), fm_congr fun y hy => h y (.tail _ hy)]
theorem one_hit {β : Type} {a : Nat} (X : List β) : ∀ {ls : List Nat}, a ∈ ls → ls.Nodup → (ls.flatMap fun d => if (d == a) = true then X else []) = X
  | d :: ls, h, hn => by
    rw [List.flatMap_cons]
    rw [List.nodup_cons] at hn
    by_cases hd : d = a
    · subst hd
      have e : (ls.flatMap fun e => if (e == d) = true then X else []) = [] := by
        rw [List.flatMap_eq_nil_iff]
        intro x hx
        have : x ≠ d := fun q => hn.1 (q ▸ hx)
        simp [this]
      rw [e]; simp
    · rw [if_neg (by simpa using hd), List.nil_append]
      refine one_hit X ?_ hn.2
      rcases List.mem_cons.mp h with q | q
      · exact absurd q.symm hd
      · exact q
theorem words_mem {ls : List Nat} : ∀ {u : List Nat} {n : Nat}, u.length = n → (∀ d ∈ u, d ∈ ls) → u ∈ words ls n
  | u, 0, h, _ => by rw [List.length_eq_zero_iff.mp h]; exact List.mem_singleton.mpr rfl
  | u, n + 1, h, hl => by
    have hne : u ≠ [] := by rintro rfl; cases h
    obtain ⟨v, d, rfl⟩ : ∃ v d, u = v ++ [d] := ⟨u.dropLast, u.getLast hne, (List.dropLast_concat_getLast hne).symm⟩
    rw [List.length_append] at h
    exact List.mem_flatMap.mpr ⟨v, words_mem (by simpa using h) fun e he => hl e (List.mem_append_left _ he), List.mem_map.mpr ⟨d, hl d (List.mem_append_right _ (List.mem_singleton.mpr rfl)), rfl⟩⟩
theorem words_let {ls : List Nat} : ∀ n u, u ∈ words ls n → ∀ d ∈ u, d ∈ ls
  | 0, u, h, d, hd => by rw [List.mem_singleton.mp h] at hd; cases hd
  | n + 1, u, h, d, hd => by
    obtain ⟨v, hv, hu⟩ := List.mem_flatMap.mp h
    obtain ⟨c, hc, rfl⟩ := List.mem_map.mp hu
    rcases List.mem_append.mp hd with hd | hd
    · exact words_let n v hv d hd
    · rw [List.mem_singleton.mp hd]; exact hc
/-- the number of them -/
def cn (ls x y : List Nat) (n : Nat) : Nat := (D ls x y n).length
theorem filter_flatMap (p : List Nat → Bool) (f : List Nat → List (List Nat)) : ∀ l : List (List Nat), (l.flatMap f).filter p = l.flatMap fun h => (f h).filter p
  | [] => rfl
  | h :: l => by rw [List.flatMap_cons, List.filter_append, filter_flatMap p f l, List.flatMap_cons]
theorem flatMap_if {α β : Type} (p : α → Bool) (f : α → List β) : ∀ l : List α, (l.flatMap fun h => if p h = true then f h else []) = (l.filter p).flatMap f
  | [] => rfl
  | h :: l => by
    rw [List.flatMap_cons, flatMap_if p f l, List.filter_cons]
    by_cases hp : p h = true
    · rw [if_pos hp, if_pos hp, List.flatMap_cons]
    · rw [if_neg hp, if_neg hp, List.nil_append]
/-- the words of the whole, in their order -/
theorem whole_list {ls p q : List Nat} {a i m : Nat} (hi : ∀ n, n < i → D ls p (p ++ [a]) n = []) (hj : ∀ n, n < m + 1 → D ls q (a :: q) n = []) (hal : a ∈ ls) :
    D ls (p ++ q) (p ++ [a] ++ q) (i + m) = (D ls p (p ++ [a]) i).flatMap fun h => ((words ls m).filter fun r => dst q (a :: q) (a :: r)).map fun r => h ++ r := by
  unfold D
  rw [words_add, filter_flatMap, ← flatMap_if]
  refine fm_congr fun h hh => ?_
  rw [List.filter_map]
  have e : ((words ls m).filter ((dst (p ++ q) (p ++ [a] ++ q)) ∘ fun r => h ++ r)) = (words ls m).filter fun r => dst p (p ++ [a]) h && dst q (a :: q) (a :: r) :=
    List.filter_congr fun r hr => whole_at hi hj hh m rfl hr hal (fun u n h1 h2 => words_mem h1 h2) (fun n u => words_let n u)
  rw [e]
  by_cases hd : dst p (p ++ [a]) h = true
  · simp [hd]
  · simp [hd]
theorem D_tail {ls q : List Nat} {a m : Nat} (hal : a ∈ ls) (hnd : ls.Nodup) : D ls q (a :: q) (m + 1) = ((words ls m).filter fun r => dst q (a :: q) (a :: r)).map fun r => a :: r := by
  unfold D
  rw [show m + 1 = 1 + m by omega, words_add, filter_flatMap]
  have e1 : words ls 1 = ls.map fun d => [d] := by
    show grow ls [[]] = _
    simp [grow]
  rw [e1, List.flatMap_map]
  have e2 : ∀ d ∈ ls, (((words ls m).map fun r => [d] ++ r).filter (dst q (a :: q))) = if d == a then ((words ls m).filter fun r => dst q (a :: q) (a :: r)).map fun r => a :: r else [] := by
    intro d _
    rw [List.filter_map]
    by_cases hd : d = a
    · subst hd
      simp [Function.comp_def]
    · rw [if_neg (by simpa using hd)]
      rw [List.map_eq_nil_iff, List.filter_eq_nil_iff]
      intro r _ hr
      obtain ⟨u2, e, _⟩ := dst_tail.mp hr
      exact hd (List.cons.inj e).1
  rw [fm_congr e2]
  exact one_hit _ hal hnd
/-- the tails less their letter -/
theorem whole_tails {ls p q : List Nat} {a i m : Nat} (hi : ∀ n, n < i → D ls p (p ++ [a]) n = []) (hj : ∀ n, n < m + 1 → D ls q (a :: q) n = []) (hal : a ∈ ls) (hnd : ls.Nodup) :
    D ls (p ++ q) (p ++ [a] ++ q) (i + m) = (D ls p (p ++ [a]) i).flatMap fun h => (D ls q (a :: q) (m + 1)).map fun t => h ++ t.drop 1 := by
  rw [whole_list hi hj hal, D_tail hal hnd]
  congr 1
  funext h
  rw [List.map_map]
  rfl
theorem whole_heads {ls p q : List Nat} {a i m : Nat} (hi : ∀ n, n < i → D ls p (p ++ [a]) n = []) (hj : ∀ n, n < m + 1 → D ls q (a :: q) n = []) (hal : a ∈ ls) (hnd : ls.Nodup) :
    D ls (p ++ q) (p ++ [a] ++ q) (i + m) = (D ls p (p ++ [a]) i).flatMap fun h => (D ls q (a :: q) (m + 1)).map fun t => h.dropLast ++ t := by
  rw [whole_tails hi hj hal hnd]
  refine fm_congr fun h hh => ?_
  obtain ⟨u1, rfl, _⟩ := dst_head.mp (List.mem_filter.mp hh).2
  rw [D_tail hal hnd, List.map_map, List.map_map]
  congr 1
  funext r
  simp
theorem D_zero (ls x y : List Nat) : D ls x y 0 = [] := by
  show [[]].filter _ = []
  simp [dst]
theorem snoc_same {v p : List Nat} {m : Nat} : Sublist (v ++ [m]) (p ++ [m]) ↔ Sublist v p := List.append_sublist_append_right [m]
theorem snoc_other {v p : List Nat} {d m : Nat} (h : d ≠ m) : Sublist (v ++ [d]) (p ++ [m]) ↔ Sublist (v ++ [d]) p := by
  constructor
  · intro hs
    obtain ⟨a, b, e, h1, h2⟩ := List.sublist_append_iff.mp hs
    rcases List.sublist_cons_iff.mp h2 with h3 | ⟨r, rfl, h3⟩
    · have : b = [] := List.sublist_nil.mp h3
      subst this
      rw [e, List.append_nil]; exact h1
    · have : r = [] := List.sublist_nil.mp h3
      subst this
      exact absurd (List.cons.inj (List.append_inj' e rfl).2).1 h
  · exact fun hs => hs.trans (List.sublist_append_left p [m])
/-- a word that a sign makes tell -/
def hp (p : List Nat) (d : Nat) (v : List Nat) : Bool := v.isSublist p && !(v ++ [d]).isSublist p
theorem hp_iff {p v : List Nat} {d : Nat} : hp p d v = true ↔ Sublist v p ∧ ¬ Sublist (v ++ [d]) p := by
  unfold hp
  rw [Bool.and_eq_true, Bool.not_eq_true', sub_iff, ← Bool.not_eq_true, sub_iff]
theorem filter_eqs (d : Nat) : ∀ ls : List Nat, (ls.filter fun c => c == d) = ls.flatMap fun c => if (c == d) = true then [d] else []
  | [] => rfl
  | c :: ls => by
    rw [List.filter_cons, List.flatMap_cons, ← filter_eqs d ls]
    by_cases hc : c = d
    · subst hc; simp
    · simp [hc]
theorem filter_one {ls : List Nat} {d : Nat} (hd : d ∈ ls) (hn : ls.Nodup) : (ls.filter fun c => c == d) = [d] := by rw [filter_eqs, one_hit [d] hd hn]
theorem len_if {α β : Type} (p : α → Bool) (f : α → β) : ∀ l : List α, (l.flatMap fun h => if p h = true then [f h] else []).length = l.countP p
  | [] => rfl
  | h :: l => by
    rw [List.flatMap_cons, List.length_append, len_if p f l, List.countP_cons]
    by_cases hp : p h = true <;> simp [hp] <;> omega
theorem head_len {ls p : List Nat} {d n : Nat} (hd : d ∈ ls) (hn : ls.Nodup) : (D ls p (p ++ [d]) (n + 1)).length = (words ls n).countP (hp p d) := by
  unfold D
  show ((grow ls (words ls n)).filter _).length = _
  unfold grow
  rw [filter_flatMap, ← len_if (hp p d) (fun v => v ++ [d])]
  congr 1
  refine fm_congr fun v _ => ?_
  rw [List.filter_map]
  have e : ∀ c ∈ ls, ((dst p (p ++ [d])) ∘ fun c => v ++ [c]) c = (if hp p d v = true then c == d else false) := by
    intro c _
    rw [Bool.eq_iff_iff]
    show dst p (p ++ [d]) (v ++ [c]) = true ↔ _
    rw [dst_head]
    by_cases hv : hp p d v = true
    · rw [if_pos hv]
      have hv' := hp_iff.mp hv
      constructor
      · rintro ⟨u1, e, _⟩
        have := (List.cons.inj (List.append_inj' e rfl).2).1
        simp [this]
      · intro hc
        have hc' : c = d := by simpa using hc
        subst hc'
        exact ⟨v, rfl, hv'.1, hv'.2⟩
    · rw [if_neg hv]
      constructor
      · rintro ⟨u1, e, h1, h2⟩
        obtain ⟨rfl, e2⟩ := List.append_inj' e rfl
        exact absurd (hp_iff.mpr ⟨h1, h2⟩) hv
      · intro h; cases h
  rw [List.filter_congr e]
  by_cases hv : hp p d v = true
  · simp only [hv, if_true]
    rw [filter_one hd hn]
    rfl
  · simp [hv]
theorem countP_or {α : Type} (p q r : α → Bool) : ∀ l : List α, (∀ x ∈ l, r x = (p x || q x)) → (∀ x ∈ l, ¬ (p x = true ∧ q x = true)) → l.countP r = l.countP p + l.countP q
  | [], _, _ => rfl
  | x :: l, h1, h2 => by
    have ih := countP_or p q r l (fun y hy => h1 y (.tail _ hy)) fun y hy => h2 y (.tail _ hy)
    rw [List.countP_cons, List.countP_cons, List.countP_cons, ih, h1 x (.head _)]
    have h3 := h2 x (.head _)
    by_cases hp : p x = true <;> by_cases hq : q x = true
    · exact absurd ⟨hp, hq⟩ h3
    · simp [hp, hq]; omega
    · simp [hp, hq]; omega
    · simp [hp, hq]
theorem cn_same {ls p : List Nat} {m n : Nat} (hm : m ∈ ls) (hn : ls.Nodup) : (D ls (p ++ [m]) (p ++ [m] ++ [m]) (n + 1)).length = (D ls p (p ++ [m]) n).length := by
  rw [head_len hm hn, D, ← List.countP_eq_length_filter]
  refine List.countP_congr fun v _ => ?_
  rw [hp_iff, dst_iff, snoc_same]
theorem cn_other {ls p : List Nat} {d m n : Nat} (hd : d ∈ ls) (hn : ls.Nodup) (hdm : d ≠ m) : (D ls (p ++ [m]) (p ++ [m] ++ [d]) (n + 1)).length = (D ls p (p ++ [d]) (n + 1)).length + (D ls p (p ++ [m]) n).length := by
  rw [head_len hd hn, head_len hd hn]
  have e : (D ls p (p ++ [m]) n).length = (words ls n).countP (dst p (p ++ [m])) := by rw [D, ← List.countP_eq_length_filter]
  rw [e]
  refine countP_or _ _ _ _ (fun v _ => ?_) fun v _ h => ?_
  · rw [Bool.eq_iff_iff, Bool.or_eq_true, hp_iff, hp_iff, dst_iff, snoc_other hdm]
    constructor
    · rintro ⟨h1, h2⟩
      by_cases hv : Sublist v p
      · exact .inl ⟨hv, h2⟩
      · exact .inr ⟨h1, hv⟩
    · rintro (⟨h1, h2⟩ | ⟨h1, h2⟩)
      · exact ⟨h1.trans (List.sublist_append_left p [m]), h2⟩
      · exact ⟨h1, fun h3 => h2 ((List.sublist_append_left v [d]).trans h3)⟩
  · exact (dst_iff.mp h.2).2 (hp_iff.mp h.1).1
/-- a counter is right -/
def CntOk (f : Nat → Nat) (c : Int × Int) : Prop := ∃ sz ct : Nat, c = ((sz : Int), (ct : Int)) ∧ (∀ n, n < sz → f n = 0) ∧ f sz = ct ∧ 0 < ct
theorem cnt_step_same {f g : Nat → Nat} {c : Int × Int} (h : CntOk f c) (h0 : g 0 = 0) (hg : ∀ n, g (n + 1) = f n) : CntOk g (c.1 + 1, c.2) := by
  obtain ⟨sz, ct, rfl, h1, h2, h3⟩ := h
  refine ⟨sz + 1, ct, by simp, fun n hn => ?_, by rw [hg, h2], h3⟩
  cases n with
  | zero => exact h0
  | succ n => rw [hg]; exact h1 n (by omega)
theorem cnt_step_other {f k g : Nat → Nat} {c b : Int × Int} (h : CntOk f c) (hb : CntOk k b) (h0 : g 0 = 0) (hk0 : k 0 = 0) (hg : ∀ n, g (n + 1) = k (n + 1) + f n) :
    CntOk g (if b.1 < c.1 + 1 then b else if b.1 = c.1 + 1 then (b.1, b.2 + c.2) else (c.1 + 1, c.2)) := by
  obtain ⟨sz, ct, rfl, h1, h2, h3⟩ := h
  obtain ⟨os, oc, rfl, g1, g2, g3⟩ := hb
  have hos : 0 < os := by
    rcases Nat.eq_zero_or_pos os with e | e
    · subst e; omega
    · exact e
  dsimp only
  have hz : ∀ n, n < os → n < sz + 1 → g n = 0 := by
    intro n hn hm
    cases n with
    | zero => exact h0
    | succ n => rw [hg, g1 _ hn, h1 n (by omega)]
  obtain ⟨o, rfl⟩ : ∃ o, os = o + 1 := ⟨os - 1, by omega⟩
  by_cases hlt : o + 1 < sz + 1
  · rw [if_pos (by omega)]
    exact ⟨o + 1, oc, rfl, fun n hn => hz n hn (by omega), by rw [hg, g2, h1 o (by omega)]; omega, g3⟩
  · rw [if_neg (by omega)]
    by_cases heq : o + 1 = sz + 1
    · rw [if_pos (by omega)]
      refine ⟨o + 1, oc + ct, by simp, fun n hn => hz n hn (by omega), ?_, by omega⟩
      rw [hg, g2, show o = sz by omega, h2]
    · rw [if_neg (by omega)]
      refine ⟨sz + 1, ct, by simp, fun n hn => hz n (by omega) hn, ?_, h3⟩
      rw [hg, g1 _ (by omega), h2]; omega
theorem count_snoc (q : List Nat) (m : Nat) : countC (q ++ [m]) = stepC m (countC q) := by
  unfold countC
  rw [List.foldl_append]; rfl
/-- the counters count the heads -/
theorem count_heads {ls : List Nat} (hn : ls.Nodup) : ∀ (k : Nat) (p : List Nat), p.length = k → (∀ d ∈ p, d ∈ ls) → ∀ d ∈ ls, CntOk (fun n => (D ls p (p ++ [d]) n).length) (countC p d)
  | 0, p, hk, _, d, hd => by
    rw [List.length_eq_zero_iff.mp hk]
    refine ⟨1, 1, rfl, fun n h => ?_, ?_, by decide⟩
    · rw [show n = 0 by omega]
      show (D ls [] ([] ++ [d]) 0).length = 0
      rw [D_zero]; rfl
    · show (D ls [] ([] ++ [d]) (0 + 1)).length = 1
      rw [head_len hd hn]
      show [[]].countP _ = 1
      simp [hp]
  | k + 1, p, hk, hl, d, hd => by
    have hne : p ≠ [] := by rintro rfl; cases hk
    obtain ⟨q, m, rfl⟩ : ∃ v d, p = v ++ [d] := ⟨p.dropLast, p.getLast hne, (List.dropLast_concat_getLast hne).symm⟩
    have hm : m ∈ ls := hl m (List.mem_append_right _ (List.mem_singleton.mpr rfl))
    have ih := count_heads hn k q (by rw [List.length_append] at hk; simpa using hk) fun e he => hl e (List.mem_append_left _ he)
    rw [count_snoc]
    unfold stepC
    have h0 : ∀ d, (D ls (q ++ [m]) (q ++ [m] ++ [d]) 0).length = 0 := fun d => by rw [D_zero]; rfl
    by_cases hdm : d = m
    · subst hdm
      rw [if_pos rfl]
      exact cnt_step_same (ih d hd) (h0 d) fun n => cn_same hd hn
    · rw [if_neg hdm]
      exact cnt_step_other (ih m hm) (ih d hd) (h0 d) (by show (D ls q (q ++ [d]) 0).length = 0; rw [D_zero]; rfl) fun n => cn_other hd hn hdm
/-- a word that a sign ahead makes tell -/
def tp (q : List Nat) (d : Nat) (r : List Nat) : Bool := dst q (d :: q) (d :: r)
theorem tp_iff {q r : List Nat} {d : Nat} : tp q d r = true ↔ Sublist r q ∧ ¬ Sublist (d :: r) q := by
  unfold tp
  rw [dst_tail]
  constructor
  · rintro ⟨u2, e, h1, h2⟩
    obtain rfl := (List.cons.inj e).2
    exact ⟨h1, h2⟩
  · rintro ⟨h1, h2⟩
    exact ⟨r, rfl, h1, h2⟩
theorem tail_len {ls q : List Nat} {d n : Nat} (hd : d ∈ ls) (hn : ls.Nodup) : (D ls q (d :: q) (n + 1)).length = (words ls n).countP (tp q d) := by
  rw [D_tail hd hn, List.length_map, ← List.countP_eq_length_filter]
  rfl
theorem cons_other {r q : List Nat} {d m : Nat} (h : d ≠ m) : Sublist (d :: r) (m :: q) ↔ Sublist (d :: r) q := by
  constructor
  · intro hs
    rcases List.sublist_cons_iff.mp hs with h1 | ⟨r', e, _⟩
    · exact h1
    · exact absurd (List.cons.inj e).1 h
  · exact fun hs => hs.trans (List.sublist_cons_self m q)
theorem tn_same {ls q : List Nat} {m n : Nat} (hm : m ∈ ls) (hn : ls.Nodup) : (D ls (m :: q) (m :: m :: q) (n + 1)).length = (D ls q (m :: q) n).length := by
  rw [tail_len hm hn, D, ← List.countP_eq_length_filter]
  refine List.countP_congr fun v _ => ?_
  rw [tp_iff, dst_iff, List.cons_sublist_cons]
theorem tn_other {ls q : List Nat} {d m n : Nat} (hd : d ∈ ls) (hn : ls.Nodup) (hdm : d ≠ m) : (D ls (m :: q) (d :: m :: q) (n + 1)).length = (D ls q (d :: q) (n + 1)).length + (D ls q (m :: q) n).length := by
  rw [tail_len hd hn, tail_len hd hn]
  have e : (D ls q (m :: q) n).length = (words ls n).countP (dst q (m :: q)) := by rw [D, ← List.countP_eq_length_filter]
  rw [e]
  refine countP_or _ _ _ _ (fun v _ => ?_) fun v _ h => ?_
  · rw [Bool.eq_iff_iff, Bool.or_eq_true, tp_iff, tp_iff, dst_iff, cons_other hdm]
    constructor
    · rintro ⟨h1, h2⟩
      by_cases hv : Sublist v q
      · exact .inl ⟨hv, h2⟩
      · exact .inr ⟨h1, hv⟩
    · rintro (⟨h1, h2⟩ | ⟨h1, h2⟩)
      · exact ⟨h1.trans (List.sublist_cons_self m q), h2⟩
      · exact ⟨h1, fun h3 => h2 ((List.sublist_cons_self d v).trans h3)⟩
  · exact (dst_iff.mp h.2).2 (tp_iff.mp h.1).1
/-- the counters count the tails, from behind -/
theorem count_tails {ls : List Nat} (hn : ls.Nodup) : ∀ (q : List Nat), (∀ d ∈ q, d ∈ ls) → ∀ d ∈ ls, CntOk (fun n => (D ls q (d :: q) n).length) (countC q.reverse d)
  | [], _, d, hd => by
    refine ⟨1, 1, rfl, fun n h => ?_, ?_, by decide⟩
    · rw [show n = 0 by omega]
      show (D ls [] [d] 0).length = 0
      rw [D_zero]; rfl
    · show (D ls [] [d] (0 + 1)).length = 1
      rw [tail_len hd hn]
      show [[]].countP _ = 1
      have : tp [] d [] = true := tp_iff.mpr ⟨List.Sublist.refl _, fun h => by cases h⟩
      simp [this]
  | m :: q, hl, d, hd => by
    have hm : m ∈ ls := hl m (.head _)
    have ih := count_tails hn q fun e he => hl e (.tail _ he)
    rw [List.reverse_cons, count_snoc]
    unfold stepC
    have h0 : ∀ d, (D ls (m :: q) (d :: m :: q) 0).length = 0 := fun d => by rw [D_zero]; rfl
    by_cases hdm : d = m
    · subst hdm
      rw [if_pos rfl]
      exact cnt_step_same (ih d hd) (h0 d) fun n => tn_same hd hn
    · rw [if_neg hdm]
      exact cnt_step_other (ih m hm) (ih d hd) (h0 d) (by show (D ls q (d :: q) 0).length = 0; rw [D_zero]; rfl) fun n => tn_other hd hn hdm
theorem whole_none {ls p q : List Nat} {a i m : Nat} (hi : ∀ n, n < i → D ls p (p ++ [a]) n = []) (hj : ∀ n, n < m + 1 → D ls q (a :: q) n = []) (hal : a ∈ ls) : ∀ n, n < i + m → D ls (p ++ q) (p ++ [a] ++ q) n = [] := by
  intro n hn
  unfold D
  rw [List.filter_eq_nil_iff]
  intro u hu hd
  rw [dst_iff, show p ++ [a] ++ q = p ++ a :: q by simp, dst_mid] at hd
  obtain ⟨u1, u2, rfl, h1, h2, h3, h4⟩ := hd
  have hin := words_let n _ hu
  have hl := words_len hu
  have m1 : u1 ++ [a] ∈ D ls p (p ++ [a]) (u1.length + 1) := List.mem_filter.mpr ⟨words_mem (by simp) (fun d hd => by
    rcases List.mem_append.mp hd with hd | hd
    · exact hin d (List.mem_append_left _ hd)
    · rw [List.mem_singleton.mp hd]; exact hal), dst_head.mpr ⟨u1, rfl, h1, h2⟩⟩
  have m2 : a :: u2 ∈ D ls q (a :: q) (u2.length + 1) := List.mem_filter.mpr ⟨words_mem (by simp) (fun d hd => hin d (List.mem_append_right _ hd)), dst_tail.mpr ⟨u2, rfl, h3, h4⟩⟩
  have l1 : i ≤ u1.length + 1 := by
    rcases Nat.lt_or_ge (u1.length + 1) i with q | q
    · rw [hi _ q] at m1; cases m1
    · exact q
  have l2 : m + 1 ≤ u2.length + 1 := by
    rcases Nat.lt_or_ge (u2.length + 1) (m + 1) with q | q
    · rw [hj _ q] at m2; cases m2
    · exact q
  simp only [List.length_append, List.length_cons] at hl
  omega
/-- all of the law that is no program -/
theorem law_pure {ls p q : List Nat} {a : Nat} (hn : ls.Nodup) (hp : ∀ d ∈ p, d ∈ ls) (hq : ∀ d ∈ q, d ∈ ls) (ha : a ∈ ls) {heads tails whole : List (List Nat)}
    (h1 : heads = apartGo p (p ++ [a]) ls ((p ++ [a]).length + 1) [[]]) (h2 : tails = apartGo q ([a] ++ q) ls (([a] ++ q).length + 1) [[]]) (h3 : whole = apartGo (p ++ q) (p ++ [a] ++ q) ls ((p ++ [a] ++ q).length + 1) [[]]) :
    ∃ i j : Nat, countC p a = ((i : Int), (heads.length : Int)) ∧ (∀ h ∈ heads, h.length = i) ∧ countC q.reverse a = ((j : Int), (tails.length : Int)) ∧ (∀ t ∈ tails, t.length = j) ∧
      whole = (heads.flatMap fun h => tails.map fun t => h ++ t.drop 1) ∧ (whole = heads.flatMap fun h => tails.map fun t => h.dropLast ++ t) := by
  obtain ⟨i, hc, e1, f1, f2, f3⟩ := count_heads hn p.length p rfl hp a ha
  obtain ⟨j, tc, e2, g1, g2, g3⟩ := count_tails hn q hq a ha
  dsimp only at f1 f2 g1 g2
  have hi : ∀ n, n < i → D ls p (p ++ [a]) n = [] := fun n h => List.length_eq_zero_iff.mp (f1 n h)
  have hj : ∀ n, n < j → D ls q (a :: q) n = [] := fun n h => List.length_eq_zero_iff.mp (g1 n h)
  have hil : i ≤ p.length + 1 := by
    rcases Nat.lt_or_ge (p.length + 1) i with h | h
    · have m1 : p ++ [a] ∈ D ls p (p ++ [a]) (p.length + 1) := List.mem_filter.mpr ⟨words_mem (by simp) (fun d hd => by
        rcases List.mem_append.mp hd with hd | hd
        · exact hp d hd
        · rw [List.mem_singleton.mp hd]; exact ha), dst_iff.mpr ⟨List.Sublist.refl _, fun h => by have := h.length_le; simp at this; omega⟩⟩
      rw [hi _ h] at m1; cases m1
    · exact h
  have hjl : j ≤ q.length + 1 := by
    rcases Nat.lt_or_ge (q.length + 1) j with h | h
    · have m1 : a :: q ∈ D ls q (a :: q) (q.length + 1) := List.mem_filter.mpr ⟨words_mem (by simp) (fun d hd => by
        rcases List.mem_cons.mp hd with hd | hd
        · rw [hd]; exact ha
        · exact hq d hd), dst_iff.mpr ⟨List.Sublist.refl _, fun h => by have := h.length_le; simp at this; omega⟩⟩
      rw [hj _ h] at m1; cases m1
    · exact h
  have hne1 : D ls p (p ++ [a]) i ≠ [] := fun h => by rw [h] at f2; simp at f2; omega
  have hne2 : D ls q (a :: q) j ≠ [] := fun h => by rw [h] at g2; simp at g2; omega
  have E1 : heads = D ls p (p ++ [a]) i := by
    rw [h1]; exact apart_go hne1 _ 0 hi (Nat.zero_le _) (by simp; omega)
  have E2 : tails = D ls q (a :: q) j := by
    rw [h2]; exact apart_go hne2 _ 0 hj (Nat.zero_le _) (by simp; omega)
  obtain ⟨m, rfl⟩ : ∃ m, j = m + 1 := by
    cases j with
    | zero => exact absurd (D_zero ls q (a :: q)) hne2
    | succ m => exact ⟨m, rfl⟩
  have W1 := whole_tails (p := p) (q := q) hi hj ha hn
  have W2 := whole_heads (p := p) (q := q) hi hj ha hn
  have hneW : D ls (p ++ q) (p ++ [a] ++ q) (i + m) ≠ [] := by
    rw [W1]
    obtain ⟨h, hh⟩ := List.exists_mem_of_ne_nil _ hne1
    obtain ⟨t, ht⟩ := List.exists_mem_of_ne_nil _ hne2
    exact List.ne_nil_of_mem (List.mem_flatMap.mpr ⟨h, hh, List.mem_map.mpr ⟨t, ht, rfl⟩⟩)
  have E3 : whole = D ls (p ++ q) (p ++ [a] ++ q) (i + m) := by
    rw [h3]; exact apart_go hneW _ 0 (whole_none hi hj ha) (Nat.zero_le _) (by simp; omega)
  refine ⟨i, m + 1, by rw [e1, E1, f2], fun h hh => ?_, by rw [e2, E2, g2], fun t ht => ?_, by rw [E3, W1, E1, E2], by rw [E3, W2, E1, E2]⟩
  · rw [E1] at hh; exact words_len (List.mem_filter.mp hh).1
  · rw [E2] at ht; exact words_len (List.mem_filter.mp ht).1
end
section
open PySem PySem.W PyProof.Rows PySem.Calls
theorem fm_len (ls : List Nat) (hl : ls.length ≤ 3) : ∀ ws : List (List Nat), (ws.flatMap fun u => ls.map fun d => u ++ [d]).length ≤ ws.length * 3
  | [] => by simp
  | u :: ws => by
    have h := fm_len ls hl ws
    rw [List.flatMap_cons, List.length_append, List.length_map, List.length_cons]
    omega
/-- how many words the search can give -/
theorem apart_len {x y ls : List Nat} (hl : ls.length ≤ 3) : ∀ (n : Nat) (ws : List (List Nat)), (apartGo x y ls n ws).length ≤ ws.length * 3 ^ n
  | 0, ws => by rw [apartGo]; simp
  | n + 1, ws => by
    rw [apartGo]
    split
    · have h1 := apart_len (x := x) (y := y) hl n ((ws.filter fun u => u.isSublist x).flatMap fun u => ls.map fun d => u ++ [d])
      have h2 := fm_len ls hl (ws.filter fun u => u.isSublist x)
      have h3 := List.length_filter_le (fun u : List Nat => u.isSublist x) ws
      have h4 : ((ws.filter fun u => u.isSublist x).flatMap fun u => ls.map fun d => u ++ [d]).length ≤ ws.length * 3 := by omega
      have h5 := Nat.mul_le_mul_right (3 ^ n) h4
      rw [Nat.pow_succ, Nat.mul_comm (3 ^ n) 3, ← Nat.mul_assoc]
      exact Nat.le_trans h1 h5
    · have h1 := List.length_filter_le (fun u : List Nat => u.isSublist y) (ws.filter fun u => !u.isSublist x)
      have h2 := List.length_filter_le (fun u : List Nat => !u.isSublist x) ws
      have h3 := Nat.le_mul_of_pos_right ws.length (show 0 < 3 ^ (n + 1) from Nat.pow_pos (by decide))
      omega
/-- how long they are, and of which letters -/
theorem apart_wd {x y ls : List Nat} : ∀ (n k : Nat) (ws : List (List Nat)), (∀ u ∈ ws, u.length ≤ k ∧ ∀ d ∈ u, d ∈ ls) → ∀ u ∈ apartGo x y ls n ws, u.length ≤ k + n ∧ ∀ d ∈ u, d ∈ ls
  | 0, k, ws, h => by
    intro u hu
    rw [apartGo] at hu
    first
      | exact absurd hu (List.not_mem_nil)
      | exact h u hu
  | n + 1, k, ws, h => by
    intro u hu
    rw [apartGo] at hu
    split at hu
    · have h1 := apart_wd n (k + 1) _ (fun v hv => ?_) u hu
      · exact ⟨by have := h1.1; omega, h1.2⟩
      · obtain ⟨z, hz, hv⟩ := List.mem_flatMap.mp hv
        obtain ⟨d, hd, rfl⟩ := List.mem_map.mp hv
        have h2 := h z ((List.mem_filter.mp hz).1)
        refine ⟨by rw [List.length_append]; simp; exact h2.1, fun d' hd' => ?_⟩
        rcases List.mem_append.mp hd' with q | q
        · exact h2.2 d' q
        · rw [List.mem_singleton.mp q]; exact hd
    · have h1 := h u (List.mem_filter.mp (List.mem_filter.mp hu).1).1
      exact ⟨by omega, h1.2⟩
theorem nil_wd {ls : List Nat} : ∀ u ∈ ([[]] : List (List Nat)), u.length ≤ 0 ∧ ∀ d ∈ u, d ∈ ls := by
  intro u hu
  rw [List.mem_singleton.mp hu]
  exact ⟨Nat.le_refl _, fun d hd => nomatch hd⟩
theorem rep_flat {α : Type} (x : α) : ∀ n : Nat, (List.replicate n [x]).flatten = List.replicate n x
  | 0 => rfl
  | n + 1 => by rw [List.replicate_succ, List.flatten_cons, rep_flat x n, List.replicate_succ]; rfl
theorem ints_rep (v : Int) (t : Tok) : ∀ n : Nat, IntsAre (List.replicate n (.int v t)) (List.replicate n v)
  | 0 => .nil
  | n + 1 => by rw [List.replicate_succ, List.replicate_succ]; exact .cons v t (ints_rep v t n)
theorem map_rep {ws : List (List Nat)} {i : Nat} (h : ∀ u ∈ ws, u.length = i) : (ws.map fun u => ((u.length : Nat) : Int)) = List.replicate ws.length (i : Int) := by
  induction ws with
  | nil => rfl
  | cons u ws ih => rw [List.map_cons, ih fun v hv => h v (.tail _ hv), h u (.head _)]; rfl
theorem foldl_app (xs : List Value) : ∀ (n : Nat) (acc : Array Value), (List.foldl (fun x1 x2 => x1 ++ x2) acc (List.replicate n xs.toArray)).toList = acc.toList ++ (List.replicate n xs).flatten
  | 0, acc => by simp
  | n + 1, acc => by
    rw [List.replicate_succ, List.foldl_cons, foldl_app xs n, List.replicate_succ, List.flatten_cons]; simp
theorem ints_step {zs : List Value} {ws : List (List Nat)} {i : Nat} {u : List Nat} (h : IntsAre zs ((ws.take i).map fun u => ((u.length : Nat) : Int))) (hu : ws[i]? = some u) (t : Tok) : IntsAre (zs ++ [.int ((u.length : Nat) : Int) t]) ((ws.take (i + 1)).map fun u => ((u.length : Nat) : Int)) := by
  rw [List.take_add_one, hu, List.map_append]
  exact h.append (.cons _ t .nil)
section
variable {prog : Program} {w : World} {A : Around} {E : Value → Shared → Prop} {s : Shared} {h₀ : Heap} {L : Addr} {m : Str → Option Value} {news : List (Addr × Obj)} {Q : Value → Shared → Prop}
theorem mul_one {a : Addr} {v c : Int} {tv u : Tok} {k n : Nat} (hc : c = (n : Int)) (F : Fr h₀ L s.heap m) (N : News h₀ L s.heap ((a, listOf #[.int v tv] k) :: news)) (hn : n ≤ 100000)
    (h : ∀ (E : Nat) h' ws, IntsAre ws (List.replicate n v) → Fr h₀ L h' m → News h₀ L h' ((E, listOf ws.toArray 0) :: (a, listOf #[.int v tv] k) :: news) → Q (.ref E) { s with heap := h' }) :
    wpAny (model prog w) A (binaryOp .Mult (.ref a) (.int c u)) Q E s := by
  subst hc
  refine mul_list F N (N _ (.head _)).1 (by omega) (by omega) (by simp; omega) fun h' F' N' => ?_
  have e : (List.foldl (fun x1 x2 => x1 ++ x2) #[] (List.replicate (if (#[Value.int v tv] : Array Value).isEmpty = true then 0 else ((n : Int)).toNat) #[Value.int v tv])) = (List.replicate n (Value.int v tv)).toArray := by
    have h1 := foldl_app [Value.int v tv] n #[]
    rw [rep_flat] at h1
    simp only [List.nil_append] at h1
    have h3 : (if (#[Value.int v tv] : Array Value).isEmpty = true then 0 else ((n : Int)).toNat) = n := by simp
    rw [h3, ← h1]
  rw [e] at N'
  exact h _ h' (List.replicate n (.int v tv)) (ints_rep v tv n) F' N'
theorem ne_ints_same {a b : Addr} {xs ys : List Value} {us vs : List Int} {ka kb : Nat} (N : News h₀ L s.heap news) (ma : (a, listOf xs.toArray ka) ∈ news) (mb : (b, listOf ys.toArray kb) ∈ news) (hx : IntsAre xs us) (hy : IntsAre ys vs) (he : us = vs) (hu : A.units + 64 < cLine)
    (h : Q (.bool false) s) : wpAny (model prog w) A (compareOp .NotEq (.ref a) (.ref b)) Q E s := by
  refine ne_intsK ⟨_, (N _ ma).1, rfl, ka, rfl⟩ hx ⟨_, (N _ mb).1, rfl, kb, rfl⟩ hy hu ?_
  rw [decide_eq_true he]; exact h
end
/-- the words of two lists, put together pair by pair -/
theorem pair_step {hs ts : List (List Nat)} {f : List Nat → List Nat → List Nat} {i : Nat} {u : List Nat} (hu : hs[i]? = some u) : ((hs.take (i + 1)).flatMap fun h => ts.map (f h)) = ((hs.take i).flatMap fun h => ts.map (f h)) ++ ts.map (f u) := by
  rw [List.take_add_one, hu, List.flatMap_append]
  simp
theorem pair_len {hs ts : List (List Nat)} {f : List Nat → List Nat → List Nat} (i : Nat) : ((hs.take i).flatMap fun h => ts.map (f h)).length ≤ hs.length * ts.length := by
  have h : ∀ l : List (List Nat), (l.flatMap fun h => ts.map (f h)).length = l.length * ts.length := by
    intro l
    induction l with
    | nil => simp
    | cons x l ih => rw [List.flatMap_cons, List.length_append, List.length_map, ih, List.length_cons, Nat.succ_mul, Nat.add_comm]
  rw [h]
  exact Nat.mul_le_mul_right _ (by rw [List.length_take]; exact Nat.min_le_right ..)
theorem tail_step {zs : List Value} {W : List Str} {ts : List (List Nat)} {g : List Nat → List Nat} {j : Nat} {t : List Nat} (h : StrsAre zs (W ++ ((ts.take j).map g).map S)) (ht : ts[j]? = some t) (k : Tok) : StrsAre (zs ++ [.str (S (g t)) k]) (W ++ ((ts.take (j + 1)).map g).map S) := by
  rw [List.take_add_one, ht, List.map_append, List.map_append, ← List.append_assoc]
  exact h.append' (.cons _ k .nil)
theorem ints_all {zs vs : List Value} {ws : List (List Nat)} {n x : Int} {i : Nat} {v : Int × Int} (hv : StrsAre vs (ws.map S)) (h : IntsAre zs ((ws.take vs.length).map fun u => ((u.length : Nat) : Int))) (hl : ∀ u ∈ ws, u.length = i) (hc : v = ((i : Int), n)) : ((ws.take vs.length).map fun u => ((u.length : Nat) : Int)) = List.replicate ws.length v.1 := by
  rw [hv.length, List.length_map, List.take_length, map_rep hl, hc]
theorem cut1 (u : List Nat) : Txt.slice (S u) (some 1) none = S (u.drop 1) := by
  cases u with
  | nil => rw [PyProof.Rows.slice_beyond (by show ((0 : Nat) : Int) ≤ 1; decide)]; rfl
  | cons d r =>
    rw [PyProof.Rows.slice_from_eq (b := ((S (d :: r)).length : Int)) (by decide) (by show (1 : Int) ≤ (((d :: r).length : Nat) : Int); simp; omega) rfl]
    show S (((d :: r).drop 1).take _) = _
    rw [List.take_of_length_le]
    show _ ≤ ((((d :: r).length : Nat) : Int) - 1).toNat
    simp
theorem cutL (u : List Nat) : Txt.slice (S u) none (some (-1)) = S u.dropLast := by
  cases u with
  | nil => decide +kernel
  | cons d r =>
    rw [beq_iff_eq.mp (PyProof.Rows.slice_closes_to_neg (x := S (d :: r)) (j := -1) (k := ((r.length : Nat) : Int)) (by decide) (by show -(((d :: r).length : Nat) : Int) ≤ -1; simp; omega) (by show _ = -1 + (((d :: r).length : Nat) : Int); simp; omega))]
    show S (((d :: r).drop 0).take _) = _
    rw [List.dropLast_eq_take]
    simp
section
variable {prog : Program} {w : World} {A : Around} {E : Value → Shared → Prop} {s : Shared} {h₀ : Heap} {L : Addr} {m : Str → Option Value} {news : List (Addr × Obj)} {Q : Value → Shared → Prop} {value slice : Expr} {t : Tok}
theorem cut_from {x : List Nat} {ui : Tok} (hF : Fr h₀ L s.heap m) (hN : News h₀ L s.heap news) (hx : x.length ≤ 9) (h : ∀ h' t' c, Fr h₀ L h' m → News h₀ L h' news → Q (.str (S (x.drop 1)) t') { s with heap := h', toks := c })
    (hs : subscripted slice false (.str (S x) t) (.ref s.heap.objs.size) = operate [.ref s.heap.objs.size, .str (S x) t] (getItem (.str (S x) t) (.ref s.heap.objs.size)))
    (ht : ∀ r, letTemporaryGo value (.str (S x) t) r = pure ()) :
    wpAny (model prog w) A (subscriptTail value slice (.str (S x) t) (.ref s.heap.objs.size)) Q E { s with heap := s.heap.push { cls := .type "slice", data := .fields #[.int 1 ui, .none, .none] } } := by
  refine slice_strN_sn hF hN (fun h' t' c F' N' => ?_) hs ht (by rw [sizeLine_eq]; show x.length ≤ _; omega)
  rw [cut1]
  exact h h' t' c F' N'
theorem cut_to {x : List Nat} {ui : Tok} (hF : Fr h₀ L s.heap m) (hN : News h₀ L s.heap news) (hx : x.length ≤ 9) (h : ∀ h' t' c, Fr h₀ L h' m → News h₀ L h' news → Q (.str (S x.dropLast) t') { s with heap := h', toks := c })
    (hs : subscripted slice false (.str (S x) t) (.ref s.heap.objs.size) = operate [.ref s.heap.objs.size, .str (S x) t] (getItem (.str (S x) t) (.ref s.heap.objs.size)))
    (ht : ∀ r, letTemporaryGo value (.str (S x) t) r = pure ()) :
    wpAny (model prog w) A (subscriptTail value slice (.str (S x) t) (.ref s.heap.objs.size)) Q E { s with heap := s.heap.push { cls := .type "slice", data := .fields #[.none, .int (-1) ui, .none] } } := by
  refine slice_strN_ns hF hN (fun h' t' c F' N' => ?_) hs ht (by rw [sizeLine_eq]; show x.length ≤ _; omega)
  rw [cutL]
  exact h h' t' c F' N'
theorem news_drop {h : Heap} {p : Addr × Obj} (N : News h₀ L h (p :: news)) : News h₀ L h news := fun z hz => N z (.tail _ hz)
theorem split4 {h : Heap} {a b c d : Addr × Obj} (N : News h₀ L h (a :: b :: c :: d :: news)) : ∃ RS, RS = news ∧ News h₀ L h (a :: b :: c :: d :: RS) := ⟨_, rfl, N⟩
end
end
section
open PySem PySem.W PyProof.Rows PySem.Calls
theorem base4 {h₀ h : Heap} {L : Addr} {l : List (Addr × Obj)} {a b c d : Addr × Obj} (N : News h₀ L h l) (ha : a ∈ l) (hb : b ∈ l) (hc : c ∈ l) (hd : d ∈ l) : News h₀ L h (a :: b :: c :: d :: l) :=
  news_cons (N a ha) (news_cons (N b hb) (news_cons (N c hc) (news_cons (N d hd) N)))
theorem len_S {prog : Program} {w : World} {A : Around} {E : Value → Shared → Prop} {s : Shared} {x : List Nat} {t : Tok} {Q : Value → Shared → Prop} (hl : x.length ≤ 1000) (h : Q (.int ((x.length : Nat) : Int) (s.toks + 1)) { s with toks := s.toks + 1 + 1 }) :
    wpAny (model prog w) A (call (.builtin "len") [.str (S x) t]) Q E s :=
  PySem.P.len_str (by show ¬ ((x.length : Nat) : Int) ≥ 2 ^ 63; omega) h
section
variable {prog : Program} {w : World} {A : Around} {s : Shared} {h₀ : Heap} {L I D C l : Nat} {m : Str → Option Value} {R : Result → Shared → Prop} {E : Value → Shared → Prop}
/-- the inner clause of two, over a list of the ledger -/
theorem innerList {elt target iter iter2 : Expr} {y : Str} {py : Pos} {scope : Scope} {pos : Pos} {cenv : Env} {LB : List (Addr × Obj)} {vs : List Value} {n : Nat} {h : Heap} {tk : Nat} {oI oC : Obj} {ys : List Value} {mC : Str → Option Value} {k : Nat}
    (G : (Str → Option Value) → Prop) (P : Nat → List Value → Prop) (hh : A.handled = none) (hL : L < I)
    (F : Fr h₀ L h m) (N : News h₀ L h ((C, oC) :: (I, oI) :: (D, listOf ys.toArray k) :: LB)) (hl : (l, listOf vs.toArray n) ∈ LB) (PL : Place h₀ L I D C) (hoff : Off I D C LB) (hd : DNs oC mC) (hg : G mC)
    (hy : cenv.kindOf y = some .local) (hk : cenv.scope.kind = .function) (hC : cenv.locals = C) (hG : ∀ mC v, G mC → G (fun z => if z = y then some v else mC z))
    (hlen : ∀ j ys, P j ys → ys.length ≤ sizeLine) (hP : P 0 ys)
    (turn : ∀ (I2 : Nat) j v zs oI2 oC mC k h tk, vs[j]? = some v → P j zs → mC y = some v → G mC → DNs oC mC → Fr h₀ L h m → News h₀ L h ((C, oC) :: (I2, oI2) :: (D, listOf zs.toArray k) :: (I, oI) :: LB) →
      wpAny (model prog w) A (eval elt cenv) (fun z s' => EltEnd h₀ L m I2 D C (fun (_ : Unit) => (I, oI) :: LB) oI2 oC zs k (fun _ => P (j + 1) (zs ++ [z])) s s') (fun _ _ => False) { s with heap := h, toks := tk })
    (done : ∀ ys oC mC h tk, P vs.length ys → DNs oC mC → Blk h₀ L m LB I D C oI ys oC h → R (.ok .next) { s with heap := h, toks := tk }) :
    wpAny (model prog w) A (pyIter (.ref l)) (fun it2 s₃ => codeAny (model prog w) A (.compStart (.ListComp elt [⟨target, iter, [], 0⟩, ⟨.Name y py, iter2, [], 0⟩] scope pos) 1 it2 (.ref D) cenv) R s₃) E { s with heap := h, toks := tk } := by
  have hn := news_lt N
  have hI8 : I < h.objs.size := hn _ (.tail _ (.head _))
  have hC8 : C < h.objs.size := hn _ (.head _)
  have hD8 : D < h.objs.size := hn _ (.tail _ (.tail _ (.head _)))
  have hlB : (l, listOf vs.toArray n) ∈ (C, oC) :: (I, oI) :: (D, listOf ys.toArray k) :: LB := .tail _ (.tail _ (.tail _ hl))
  refine src_list (s := { s with heap := h, toks := tk }) (vs := vs) (Led := fun (_ : Unit) => (I, oI) :: LB) (h₀ := h₀) hh ⟨_, (N _ hlB).1, rfl, n, rfl⟩ (.inl ⟨_, fun _ => .tail _ hl⟩) fun o2 hS2 => ?_
  obtain ⟨o3, ho3⟩ := src_it hS2
  have hB2 : Blk h₀ L m ((I, oI) :: LB) h.objs.size D C o3 ys oC (h.push o2) := by
    refine ⟨F.push _, newsPush (fun q hq => N q ?_) _, ho3, ⟨k, Heap.get?_push_of_some _ (N _ (.tail _ (.tail _ (.head _)))).1⟩, Heap.get?_push_of_some _ (N _ (.head _)).1⟩
    rcases List.mem_cons.mp hq with rfl | hq
    · exact .tail _ (.head _)
    · exact .tail _ (.tail _ (.tail _ hq))
  have hI2 : ∀ b, h.objs.size ≤ b → h₀.get? b = none := fun b hb => Heap.get?_none_of_le (Nat.le_trans F.above (Nat.le_trans (Nat.le_of_lt hL) (Nat.le_trans (Nat.le_of_lt hI8) hb)))
  refine lcInner (s := s) (h₀ := h₀) (L := L) (oI := o3) (oC := oC) (mC := mC) (ys := ys) (Led := fun (_ : Unit) => (I, oI) :: LB) (G := G) (P := fun j _ zs => P j zs) () hS2 ?hoff2 ?PL2 hy hk hC hG (fun j _ zs hz => hlen j zs hz) hP ⟨hd, hg⟩ hB2 ?turn2 ?done2
  (case hoff2 =>
    intro _ q hq
    rcases List.mem_cons.mp hq with rfl | hq
    · exact ⟨Nat.ne_of_lt hI8, PL.ID, PL.IC⟩
    · exact ⟨Nat.ne_of_lt (hn q (.tail _ (.tail _ (.tail _ hq)))), (hoff q hq).2.1, (hoff q hq).2.2⟩)
  (case PL2 => exact ⟨Nat.ne_of_gt (Nat.lt_trans hL hI8), PL.DL, PL.CL, hI2 _ (Nat.le_refl _), PL.D0, PL.C0, Nat.ne_of_gt hD8, PL.DC, Nat.ne_of_gt hC8⟩)
  (case turn2 =>
    intro j _ v zs oI2 oC mC k h tk hv hj hP hm hd F7 N7
    exact turn _ j v zs oI2 oC mC k h tk hv hP hm.1 hm.2 hd F7 N7)
  (case done2 =>
    intro _ zs oC mC k h tk hP hd F7 N7 hD hC
    exact done zs oC mC h tk hP hd.1 ⟨F7, fun q hq => N7 q (.tail _ hq), (N7 _ (.head _)).1, ⟨k, hD⟩, hC⟩)
end
theorem tab96_grown {h₀ h : Heap} {L : Addr} {T : Option (Nat × Obj)} {l : List (Addr × Obj)} (N : News h₀ L h l) (hm : ∀ q ∈ tab96 T, q ∈ l) : GrownAt 96 h := by
  cases T with
  | none => exact .of N (hm _ (.head _))
  | some p => exact .of N (hm _ (.head _))
/-- the pairs' list, one word of the outer list further -/
theorem pair_done {zs vs : List Value} {hs ts : List (List Nat)} {f : List Nat → List Nat → List Nat} {i : Nat} {u : List Nat} (hv : StrsAre vs (ts.map S)) (hu : hs[i]? = some u)
    (h : StrsAre zs ((((hs.take i).flatMap fun h => ts.map (f h)).map S) ++ ((ts.take vs.length).map (f u)).map S)) : StrsAre zs (((hs.take (i + 1)).flatMap fun h => ts.map (f h)).map S) := by
  rw [pair_step hu, List.map_append]
  rwa [hv.length, List.length_map, List.take_length] at h
theorem pair_size {zs : List Value} {hs ts : List (List Nat)} {f : List Nat → List Nat → List Nat} {i j : Nat} {u : List Nat} (hh : hs.length ≤ 243) (ht : ts.length ≤ 243)
    (h : StrsAre zs ((((hs.take i).flatMap fun h => ts.map (f h)).map S) ++ ((ts.take j).map (f u)).map S)) : zs.length ≤ sizeLine := by
  have h1 := pair_len (hs := hs) (ts := ts) (f := f) i
  have h2 := Nat.mul_le_mul hh ht
  rw [sizeLine_eq, h.length, List.length_append, List.length_map, List.length_map, List.length_map, List.length_take]
  omega
theorem pair_zero {ys : List Value} {hs ts : List (List Nat)} {f : List Nat → List Nat → List Nat} {i : Nat} {u : List Nat} (h : StrsAre ys (((hs.take i).flatMap fun h => ts.map (f h)).map S)) : StrsAre ys ((((hs.take i).flatMap fun h => ts.map (f h)).map S) ++ ((ts.take 0).map (f u)).map S) := by
  simpa using h
end
section
open PySem PySem.W PyProof.Rows PySem.Calls
/-- a lexer between two words -/
structure LxS where
  (t1 ti : Tok)
  (ne nl : Nat)
  (n : Int)
  (i : Nat)
theorem flat_take_le (wl : List (List Nat)) (j : Nat) : (wl.take j).flatten.length ≤ wl.flatten.length := by
  have h := congrArg (fun l => (List.flatten l).length) (List.take_append_drop j wl)
  simp only [List.flatten_append, List.length_append] at h
  omega
theorem strs4 {vs : List Value} {a b c d : Str} (h : StrsAre vs [a, b, c, d]) : ∃ t1 t2 t3 t4, vs = [.str a t1, .str b t2, .str c t3, .str d t4] := by
  obtain ⟨q1, _, rfl, h1⟩ := h.cons_inv
  obtain ⟨q2, _, rfl, h2⟩ := h1.cons_inv
  obtain ⟨q3, _, rfl, h3⟩ := h2.cons_inv
  obtain ⟨q4, _, rfl, h4⟩ := h3.cons_inv
  obtain rfl := h4.nil_inv
  exact ⟨_, _, _, _, rfl⟩
theorem strs_idx : ∀ {vs : List Value} {ws : List (List Nat)}, StrsAre vs (ws.map S) → ∀ {j : Nat} {u : List Nat}, ws[j]? = some u → ∃ t, vs[j]? = some (.str (S u) t)
  | _, [], _, j, u, hu => by simp at hu
  | vs, w :: ws, h, j, u, hu => by
    obtain ⟨t, r, rfl, h1⟩ := StrsAre.cons_inv h
    cases j with
    | zero => exact ⟨t, by simp at hu; subst hu; rfl⟩
    | succ j => exact strs_idx h1 (by simpa using hu)
theorem ints_get : ∀ {vs : List Value} {ns : List Int}, IntsAre vs ns → ∀ {i : Nat} {v : Value}, vs[i]? = some v → ∃ n t, v = .int n t ∧ ns[i]? = some n
  | _, _, .nil, i, v, h => by simp at h
  | _, _, .cons n t r, i, v, h => by
    cases i with
    | zero => exact ⟨n, t, by simpa using h.symm, rfl⟩
    | succ i => exact ints_get r (by simpa using h)
/-- three letters as the law takes them -/
def LetOk (a b c : Nat) : Prop := (a ≠ b ∧ a ≠ c ∧ b ≠ c) ∧ (a ≠ 46 ∧ b ≠ 46 ∧ c ≠ 46) ∧ (a < 0x110000 ∧ b < 0x110000 ∧ c < 0x110000)
theorem lets_ok (x : Int) : ∃ a b c : Nat, Txt.slice (Str.ofString "\n \"#\\a" ++ Str.ofString "\n \"#\\a") (some (x.fmod 6)) (some (x.fmod 6 + 3)) = S [a, b, c] ∧ LetOk a b c := by
  have h0 : 0 ≤ x.fmod 6 := Int.fmod_nonneg_of_pos x (by decide)
  have h1 : x.fmod 6 < 6 := Int.fmod_lt_of_pos x (by decide)
  generalize x.fmod 6 = y at h0 h1
  rcases (show y = 0 ∨ y = 1 ∨ y = 2 ∨ y = 3 ∨ y = 4 ∨ y = 5 by omega) with rfl | rfl | rfl | rfl | rfl | rfl
  · exact ⟨10, 32, 34, by decide +kernel, by decide, by decide, by decide⟩
  · exact ⟨32, 34, 35, by decide +kernel, by decide, by decide, by decide⟩
  · exact ⟨34, 35, 92, by decide +kernel, by decide, by decide, by decide⟩
  · exact ⟨35, 92, 97, by decide +kernel, by decide, by decide, by decide⟩
  · exact ⟨92, 97, 10, by decide +kernel, by decide, by decide, by decide⟩
  · exact ⟨97, 10, 32, by decide +kernel, by decide, by decide, by decide⟩
def pick (a b c : Nat) (i : Int) : Nat := if i = 0 then a else if i = 1 then b else c
theorem it3 (a b c : Nat) {i : Int} (h0 : 0 ≤ i) (h1 : i < 3) : Txt.item (S [a, b, c]) i = S [pick a b c i] := by
  rcases (show i = 0 ∨ i = 1 ∨ i = 2 by omega) with rfl | rfl | rfl <;> rfl
/-- the word that some of the numbers write -/
def wd (a b c : Nat) (xs : List Int) : List Nat := xs.filterMap fun x => if x.fmod 4 < 3 then some (pick a b c (x.fmod 4)) else none
theorem wd_len (a b c : Nat) (xs : List Int) : (wd a b c xs).length ≤ xs.length := List.length_filterMap_le ..
theorem wd_snoc {a b c : Nat} {xs : List Int} {i : Nat} {x : Int} (h : xs[i]? = some x) : wd a b c (xs.take (i + 1)) = wd a b c (xs.take i) ++ if x.fmod 4 < 3 then [pick a b c (x.fmod 4)] else [] := by
  unfold wd
  rw [List.take_add_one, h, List.filterMap_append]
  congr 1
  by_cases hx : x.fmod 4 < 3 <;> simp [hx]
def one (u : List Nat) : List (List Nat) := u.map fun d => [d]
theorem one_flat (u : List Nat) : (one u).flatten = u := by
  unfold one
  induction u with
  | nil => rfl
  | cons d u ih => simpa using ih
theorem one_sum (u : List Nat) : ((one u).map List.length).sum = u.length := by
  unfold one
  induction u with
  | nil => rfl
  | cons d u ih =>
    simp only [List.map_cons, List.sum_cons, List.length_cons, ih, List.length_nil]
    omega
theorem pick_mem (a b c : Nat) (i : Int) : pick a b c i ∈ [a, b, c] := by
  unfold pick
  split
  · simp
  · split <;> simp
theorem wd_mem {a b c : Nat} {xs : List Int} : ∀ d ∈ wd a b c xs, d ∈ [a, b, c] := by
  intro d hd
  obtain ⟨x, _, hx⟩ := List.mem_filterMap.mp hd
  split at hx
  · rw [← Option.some.inj hx]; exact pick_mem ..
  · cases hx
theorem rev3 (uk : Tok) : ∀ u : List Nat, u.length ≤ 3 → Txt.sliceBy (S u) none none (-1, uk) = S u.reverse
  | [], _ => by first | with_unfolding_all rfl | kernel_rfl
  | [_], _ => by first | with_unfolding_all rfl | kernel_rfl
  | [_, _], _ => by first | with_unfolding_all rfl | kernel_rfl
  | [_, _, _], _ => by first | with_unfolding_all rfl | kernel_rfl
  | _ :: _ :: _ :: _ :: _, h => by simp at h
/-- the words as they are written, by the numbers -/
def wrs (us : List (List Nat)) (xs : List Int) : List (List Nat) := List.zipWith (fun u x => wr u ((x.fdiv 4).fmod 2 == 0)) us xs
theorem wrs_get {us : List (List Nat)} {xs : List Int} {i : Nat} {u : List Nat} {x : Int} (hu : us[i]? = some u) (hx : xs[i]? = some x) : (wrs us xs)[i]? = some (wr u ((x.fdiv 4).fmod 2 == 0)) := by
  unfold wrs
  rw [List.getElem?_zipWith, hu, hx]
theorem wrs_len (us : List (List Nat)) (xs : List Int) : (wrs us xs).length = min us.length xs.length := by simp [wrs]
theorem encQ_len : ∀ u : List Nat, (encQ u).length ≤ 2 * u.length
  | [] => Nat.le_refl _
  | d :: u => by
    have h := encQ_len u
    show ((if d = 34 ∨ d = 92 then [92, d] else [d]) ++ encQ u).length ≤ _
    rw [List.length_append, List.length_cons]
    split <;> simp only [List.length_cons, List.length_nil] <;> omega
theorem encB_len : ∀ u : List Nat, (encB u).length = 2 * u.length
  | [] => rfl
  | d :: u => by
    have h := encB_len u
    show ([92, d] ++ encB u).length = _
    rw [List.length_append, h, List.length_cons]; simp only [List.length_cons, List.length_nil]; omega
theorem wr_len (u : List Nat) (b : Bool) : (wr u b).length ≤ 2 * u.length + 2 := by
  have h1 := encQ_len u
  have h2 := encB_len u
  unfold wr
  split <;> simp only [List.length_append, List.length_cons, List.length_nil] <;> omega
theorem wrs_sum : ∀ (us : List (List Nat)) (xs : List Int), (∀ u ∈ us, u.length ≤ 3) → ((wrs us xs).map List.length).sum ≤ 8 * us.length
  | [], _, _ => by simp [wrs]
  | _ :: _, [], _ => by simp [wrs]
  | u :: us, x :: xs, h => by
    have h1 := wrs_sum us xs fun v hv => h v (.tail _ hv)
    have h2 := wr_len u ((x.fdiv 4).fmod 2 == 0)
    have h3 := h u (.head _)
    show ((wr u ((x.fdiv 4).fmod 2 == 0)).length :: (wrs us xs).map List.length).sum ≤ _
    rw [List.sum_cons, List.length_cons]; omega
theorem s_lens (ws : List (List Nat)) : ((ws.map S).map (·.length)).sum = (ws.map List.length).sum := by
  rw [List.map_map]; rfl
/-- the seven numbers -/
def nums (ns : List Int) : List Int := (ns.take 7).map (·.fmod 120) ++ [0, 1, 3, 0, 3, 3, 0].drop (ns.take 7).length
theorem nums_len (ns : List Int) : (nums ns).length = 7 := by
  unfold nums
  simp only [List.length_append, List.length_map, List.length_drop, List.length_take, List.length_cons, List.length_nil]
  omega
theorem nums_le (ns : List Int) : ∀ x ∈ nums ns, 0 ≤ x ∧ x < 120 := by
  intro x hx
  rcases List.mem_append.mp hx with h | h
  · obtain ⟨y, _, rfl⟩ := List.mem_map.mp h
    exact ⟨Int.fmod_nonneg_of_pos y (by decide), Int.fmod_lt_of_pos y (by decide)⟩
  · have := List.mem_of_mem_drop h
    simp only [List.mem_cons, List.not_mem_nil, or_false] at this
    omega
section
variable {prog : Program} {w : World} {A : Around} {E : Value → Shared → Prop} {s : Shared} {h₀ : Heap} {L : Addr} {m : Str → Option Value} {news : List (Addr × Obj)} {value slice : Expr} {l : Addr} {vs : List Value} {t t' : Tok} {Q : Value → Shared → Prop}
theorem slc_any (lo hi : Option Int) {vl vu : Value} (zs : List Value) (F : Fr h₀ L s.heap m) (N : News h₀ L s.heap news) (hl : s.heap.IsList l vs.toArray) (hsz : vs.length ≤ 1000) (pl : IsPart vl lo) (pu : IsPart vu hi) (e : slicePick vs.toArray lo hi none = zs.toArray)
    (h : ∀ (D : Nat) h', Fr h₀ L h' m → News h₀ L h' ((D, listOf zs.toArray 0) :: news) → (∀ p ∈ news, p.1 < D) → Q (.ref D) { s with heap := h' })
    (hs : subscripted slice false (.ref l) (.ref s.heap.objs.size) = operate [.ref s.heap.objs.size, .ref l] (getItem (.ref l) (.ref s.heap.objs.size)))
    (ht : ∀ r, letTemporaryGo value (.ref l) r = pure ()) :
    wpAny (model prog w) A (subscriptTail value slice (.ref l) (.ref s.heap.objs.size)) Q E { s with heap := s.heap.push { cls := .type "slice", data := .fields #[vl, vu, .none] } } := by
  refine slice_list F N hl pl pu (fun h' F' N' => ?_) hs ht (by rw [sizeLine_eq, List.size_toArray]; omega)
  rw [e] at N'
  exact h _ h' F' N' fun p hp => Nat.lt_succ_of_lt (Heap.lt_size (N p hp).1)
theorem add_any {a b : Addr} {us ws : List Value} (F : Fr h₀ L s.heap m) (N : News h₀ L s.heap news) (hl : s.heap.IsList a us.toArray) (hb : s.heap.IsList b ws.toArray) (hsz : us.length + ws.length ≤ 1000)
    (h : ∀ (D : Nat) h', Fr h₀ L h' m → News h₀ L h' ((D, listOf (us ++ ws).toArray 0) :: news) → (∀ p ∈ news, p.1 < D) → Q (.ref D) { s with heap := h' }) : wpAny (model prog w) A (binaryOp .Add (.ref a) (.ref b)) Q E s :=
  add_lists F N hl hb (fun h' F' N' => h _ h' F' N' fun p hp => Heap.lt_size (N p hp).1) (by rw [sizeLine_eq]; omega)
theorem lit7 {h : Heap} {a : Nat} {b : Addr × Obj} {x1 x2 x3 x4 x5 x6 x7 : Int} {u1 u2 u3 u4 u5 u6 u7 : Tok} (N : News h₀ L h (b :: (a, listOf #[.int x1 u1, .int x2 u2, .int x3 u3, .int x4 u4, .int x5 u5, .int x6 u6, .int x7 u7] 0) :: news)) :
    ∃ cv, IntsAre cv [x1, x2, x3, x4, x5, x6, x7] ∧ News h₀ L h (b :: (a, listOf cv.toArray 0) :: news) :=
  ⟨_, .cons x1 u1 (.cons x2 u2 (.cons x3 u3 (.cons x4 u4 (.cons x5 u5 (.cons x6 u6 (.cons x7 u7 .nil)))))), N⟩
theorem src_listN {n : Nat} {E : Value → Shared → Prop} {Q : Value → Shared → Prop} (N : News h₀ L s.heap ((l, listOf vs.toArray n) :: news)) (hh : A.handled = none)
    (h : ∀ o, Src prog w A h₀ (fun (_ : Unit) => (l, listOf vs.toArray n) :: news) s.heap.objs.size vs.length (fun i v => vs[i]? = some v) (s.heap.push o) → Q (.ref s.heap.objs.size) { s with heap := s.heap.push o }) : wpAny (model prog w) A (pyIter (.ref l)) Q E s :=
  src_list hh ⟨_, (N _ (.head _)).1, rfl, n, rfl⟩ (.inl ⟨_, fun _ => .head _⟩) h
theorem news_two {h : Heap} {p q : Addr × Obj} (N : News h₀ L h (p :: q :: news)) : News h₀ L h news := fun z hz => N z (.tail _ (.tail _ hz))
theorem lit3 {h : Heap} {a : Nat} {x1 x2 x3 : List Nat} {u1 u2 u3 : Tok} (N : News h₀ L h ((a, listOf #[.str (S x1) u1, .str (S x2) u2, .str (S x3) u3] 0) :: news)) :
    ∃ cv, StrsAre cv ([x1, x2, x3].map S) ∧ News h₀ L h ((a, listOf cv.toArray 0) :: news) :=
  ⟨_, .cons _ u1 (.cons _ u2 (.cons _ u3 .nil)), N⟩
theorem src_rangeN {r : Addr} {n : Nat} {t u v : Tok} {Q : Value → Shared → Prop} {E : Value → Shared → Prop} (N : News h₀ L s.heap news) (hh : A.handled = none) (hr : IsRange s.heap r 0 (n : Int) 1 t u v) (hn : n < 2 ^ 30)
    (h : ∀ o, Src prog w A h₀ (fun (_ : Unit) => news) s.heap.objs.size n (fun i v => ∃ t, v = .int (i : Int) t) (s.heap.push o) → Q (.ref s.heap.objs.size) { s with heap := s.heap.push o }) : wpAny (model prog w) A (pyIter (.ref r)) Q E s := src_range hh hr hn h
theorem law_perm {h : Heap} {d x y cT cX cW cL cN t9 t7 : Addr × Obj} (N : News h₀ L h [d, x, y, cT, cX, cW, cL, cN, t9, t7]) : News h₀ L h (t7 :: [cX, cT, x, y, cW, cL, cN, t9]) := news_sub0 N (by
  (repeat (refine List.forall_mem_cons.mpr ⟨by k_mem, ?_⟩)); exact List.forall_mem_nil _)
theorem lex_re {h : Heap} {x : LexH} {w : World} {c1 c2 : Nat} {oc1 oc2 : Obj} {fd1 fd2 : FuncData} {r1 r2 r3 r4 r5 r6 r7 r8 : Addr × Obj} (N : News h₀ L h (x.led w ++ (tab79 (some (c1, oc1, c2, oc2)) ++ [r1, r2, r3, r4, r5, r6, r7, r8])))
    (h2 : x.o2 = { cls := .type "function", dict := some x.ds, data := .func fd2 }) (h1 : x.of1 = { cls := .type "function", data := .func fd1 }) :
    News h₀ L h (r1 :: (lexRows w x.lx x.dx x.ds x.f2 x.f1 x.la x.pb x.q1 x.q2 x.q3 x.q4 x.t1 x.t2 x.tq x.tl x.ne x.n5 x.nl fd2 1 0 ++ ((x.pb, listOf ([] : List Value).toArray x.np) :: [(x.f1, ({ cls := .type "function", data := .func fd1 } : Obj)), (x.ca, x.oca), (x.cw, x.ocw), (79, tabObj #[rawInt 94, rawInt 4, .ref c1, rawInt 98, rawInt 13, .ref c2]), (c1, oc1), (c2, oc2), r2, r3, r4, r5, r6, r7, r8]))) := by
  rw [LexH.led, h2, h1] at N
  simp only [lexRows, tab79, List.cons_append, List.nil_append] at N ⊢
  refine news_sub0 N ?_
  (repeat (refine List.forall_mem_cons.mpr ⟨by k_mem, ?_⟩)); exact List.forall_mem_nil _
theorem lex_swap {h : Heap} {l : List (Addr × Obj)} {p r1 : Addr × Obj} {rs : List (Addr × Obj)} (N : News h₀ L h (r1 :: (l ++ (p :: rs)))) : News h₀ L h (l ++ (p :: (r1 :: rs))) := fun q hq => N q (by
  simp only [List.mem_cons, List.mem_append] at hq ⊢
  rcases hq with h | h | h | h <;> simp [h])
theorem split_rs {h : Heap} {l : List (Addr × Obj)} {p q : Addr × Obj} {rs : List (Addr × Obj)} (N : News h₀ L h (l ++ (p :: q :: rs))) : ∃ RS, RS = rs ∧ News h₀ L h (l ++ (p :: q :: RS)) := ⟨rs, rfl, N⟩
theorem perm3 {h : Heap} {l : List (Addr × Obj)} {a b d p : Addr × Obj} {rs : List (Addr × Obj)} (N : News h₀ L h (a :: b :: d :: (l ++ (p :: rs)))) : News h₀ L h (l ++ (p :: a :: b :: d :: rs)) := fun q hq => N q (by
  simp only [List.mem_cons, List.mem_append] at hq ⊢
  rcases hq with h | h | h | h | h | h <;> simp [h])
theorem perm3' {h : Heap} {l : List (Addr × Obj)} {a b d p : Addr × Obj} {rs : List (Addr × Obj)} (N : News h₀ L h (l ++ (p :: a :: b :: d :: rs))) : News h₀ L h (a :: b :: d :: (l ++ (p :: rs))) := fun q hq => N q (by
  simp only [List.mem_cons, List.mem_append] at hq ⊢
  rcases hq with h | h | h | h | h | h <;> simp [h])
theorem ne_same {a b : Addr} {xs ys : List Value} {us : List Str} {ka kb : Nat} (N : News h₀ L s.heap news) (ma : (a, listOf xs.toArray ka) ∈ news) (mb : (b, listOf ys.toArray kb) ∈ news) (hx : StrsAre xs us) (hy : StrsAre ys us) (ou : SOk us) (hu : A.units + 64 < cLine)
    (h : Q (.bool false) s) : wpAny (model prog w) A (compareOp .NotEq (.ref a) (.ref b)) Q E s := by
  refine ne_strs N ma mb hx hy ou ou hu ?_
  rw [decide_eq_true rfl]; exact h
theorem eq_same {a b : Addr} {xs ys : List Value} {us : List Str} {ka kb : Nat} (N : News h₀ L s.heap news) (ma : (a, listOf xs.toArray ka) ∈ news) (mb : (b, listOf ys.toArray kb) ∈ news) (hx : StrsAre xs us) (hy : StrsAre ys us) (ou : SOk us) (hu : A.units + 64 < cLine)
    (h : Q (.bool true) s) : wpAny (model prog w) A (compareOp .Eq (.ref a) (.ref b)) Q E s := by
  refine eq_strs N ma mb hx hy ou ou hu ?_
  rw [decide_eq_true rfl]; exact h
theorem lit1 {h : Heap} {a : Nat} {x1 : Str} {u1 : Tok} (N : News h₀ L h ((a, listOf #[.str x1 u1] 0) :: news)) : ∃ cv, StrsAre cv [x1] ∧ News h₀ L h ((a, listOf cv.toArray 0) :: news) := ⟨_, .cons _ u1 .nil, N⟩
theorem cnt_count (c : Nat) : ∀ l : List Nat, cnt c l = ((l.count c : Nat) : Int)
  | [] => by rw [cnt_nil]; rfl
  | d :: l => by
    rw [cnt_cons, cnt_count c l, List.count_cons]
    by_cases hd : d = c <;> simp [hd] <;> omega
theorem call_countnl {l : List Nat} {u : Tok} (h : ∀ t' k, Q (.int ((l.count 10 : Nat) : Int) t') { s with toks := k }) : wpAny (model prog w) A (call (.builtin "str.count") [.str (S l) t, .str (Str.ofString "\n") u]) Q E s := by
  refine KXw.count ?_ h
  rw [nl_eq]
  have e : Txt.count (S l) (S [10]) = cnt 10 l := count_cnt (S l) 10
  rw [e, cnt_count]
theorem trim23 {h : Heap} {a1 a2 a3 a4 a5 a6 a7 a8 a9 a10 a11 a12 a13 a14 a15 a16 a17 a18 a19 a20 a21 a22 a23 : Addr × Obj} (N : News h₀ L h [a1, a2, a3, a4, a5, a6, a7, a8, a9, a10, a11, a12, a13, a14, a15, a16, a17, a18, a19, a20, a21, a22, a23]) : News h₀ L h (a14 :: a15 :: a16 :: a23 :: [a3, a17, a21]) := news_sub0 N (by
  (repeat (refine List.forall_mem_cons.mpr ⟨by k_mem, ?_⟩)); exact List.forall_mem_nil _)
theorem add_S {a b : List Nat} {u : Tok} (hl : a.length + b.length ≤ 1000) (h : ∀ t' k, Q (.str (S (a ++ b)) t') { s with toks := k }) : wpAny (model prog w) A (binaryOp .Add (.str (S a) t) (.str (S b) u)) Q E s := by
  refine PyProof.Rows.add_str (fun t' tk => ?_) (by rw [sizeLine_eq]; show a.length + b.length ≤ _; omega)
  rw [s_app]
  exact h t' tk
theorem ap_back {h : Heap} {p : Addr × Obj} {X : Option (Nat × Obj × Nat × Obj)} {T : Option (Nat × Obj)} {l : List (Addr × Obj)} (N : News h₀ L h (p :: (tab79 X ++ (tab96 T ++ l)))) : News h₀ L h (p :: (l ++ (tab79 X ++ tab96 T))) := fun q hq => N q (by
  simp only [List.mem_cons, List.mem_append] at hq ⊢
  rcases hq with h | h | h | h <;> simp [h])
theorem ap_to {h : Heap} {X : Option (Nat × Obj × Nat × Obj)} {T : Option (Nat × Obj)} {l : List (Addr × Obj)} (N : News h₀ L h (l ++ (tab79 X ++ tab96 T))) : News h₀ L h (tab79 X ++ (tab96 T ++ l)) := fun q hq => N q (by
  simp only [List.mem_append] at hq ⊢
  rcases hq with h | h | h <;> simp [h])
theorem to_head4 {h : Heap} {p a b t : Addr × Obj} (N : News h₀ L h (p :: a :: b :: t :: news)) : News h₀ L h (t :: p :: a :: b :: news) := fun q hq => N q (by
  simp only [List.mem_cons] at hq ⊢
  rcases hq with h | h | h | h | h <;> simp [h])
theorem okay_next {T9 T : Option (Nat × Obj)} {l : List (Addr × Obj)} {z : Addr × Obj} (h : Okay96 T9 l T) (hz : z ∈ l) (h1 : ∀ c o, T9 = some (c, o) → @LT.lt Nat _ z.1 c) (h2 : ok96 T9) : (∀ c o, T = some (c, o) → @LT.lt Nat _ z.1 c) ∧ ok96 T := by
  rcases h with rfl | ⟨c, o, rfl, ha, _, hok⟩
  · exact ⟨h1, h2⟩
  · refine ⟨fun c' o' e => ?_, hok⟩
    cases e
    exact allLt_get ha z hz
theorem tab96_ne {T : Option (Nat × Obj)} {z : Nat} (h9 : 96 < z) (h : ∀ c o, T = some (c, o) → z < c) : ∀ q ∈ tab96 T, q.1 ≠ z := by
  cases T with
  | none => intro q hq; rw [List.mem_singleton.mp hq]; exact Nat.ne_of_lt h9
  | some p =>
    obtain ⟨c, o⟩ := p
    exact List.forall_mem_cons.mpr ⟨Nat.ne_of_lt h9, List.forall_mem_cons.mpr ⟨Nat.ne_of_gt (h c o rfl), List.forall_mem_nil _⟩⟩
theorem slice_rev {x : List Nat} {uk : Tok} (hF : Fr h₀ L s.heap m) (hN : News h₀ L s.heap news) (hx : x.length ≤ 3) (h : ∀ h' t' c, Fr h₀ L h' m → News h₀ L h' news → Q (.str (S x.reverse) t') { s with heap := h', toks := c })
    (hs : subscripted slice false (.str (S x) t) (.ref s.heap.objs.size) = operate [.ref s.heap.objs.size, .str (S x) t] (getItem (.str (S x) t) (.ref s.heap.objs.size)))
    (ht : ∀ r, letTemporaryGo value (.str (S x) t) r = pure ()) :
    wpAny (model prog w) A (subscriptTail value slice (.str (S x) t) (.ref s.heap.objs.size)) Q E { s with heap := s.heap.push { cls := .type "slice", data := .fields #[.none, .none, .int (-1) uk] } } := by
  refine slice_strK_nn hF hN (by decide) (fun h' t' c F' N' => ?_) hs ht (by rw [sizeLine_eq]; show x.length ≤ _; omega)
  rw [rev3 uk x hx]
  exact h h' t' c F' N'
theorem slc_to (b : Nat) : slicePick vs.toArray none (some (b : Int)) none = (vs.take b).toArray := slicePick_upto' vs.toArray b
theorem slc_from (a : Nat) : slicePick vs.toArray (some (a : Int)) none none = (vs.drop a).toArray := slicePick_from' vs.toArray a
theorem slc_run (a b : Nat) (hb : b ≤ vs.length) (hab : a ≤ b) : slicePick vs.toArray (some (a : Int)) (some (b : Int)) none = ((vs.drop a).take (b - a)).toArray := slicePick_run vs.toArray a b (by simpa using hb) hab
end
theorem ints_snoc {vs : List Value} {ns : List Int} (h : IntsAre vs ns) (n : Int) (t : Tok) : IntsAre (vs ++ [.int n t]) (ns ++ [n]) := h.append (.cons n t .nil)
theorem map_snoc {f : Int → Int} {ns : List Int} {i : Nat} {n : Int} (h : ns[i]? = some n) : (ns.take (i + 1)).map f = (ns.take i).map f ++ [f n] := by
  rw [List.take_add_one, h]; simp
section
variable {prog : Program} {w : World} {A : Around} {E : Value → Shared → Prop} {s : Shared} {h₀ : Heap} {L : Addr} {m : Str → Option Value} {news : List (Addr × Obj)} {value slice : Expr} {D : Addr} {ys : List Value} {t u : Tok} {Q : Value → Shared → Prop}
theorem join_ws {ws : List (List Nat)} {k : Nat} (r : List Nat) (N : News h₀ L s.heap ((D, listOf ys.toArray k) :: news)) (hi : StrsAre ys (ws.map S)) (hr : ws.flatten = r) (hl : (ws.map List.length).sum ≤ 1000) (hn : ws.length ≤ 1000)
    (h : ∀ t k, Q (.str (S r) t) { s with toks := k }) : wpAny (model prog w) A (call (.builtin "str.join") [.str (Str.ofString "") t, .ref D]) Q E s := by
  refine join_listC (items := ys.toArray) ⟨_, (N _ (.head _)).1, rfl, k, rfl⟩ (by simpa using hi) (by decide +kernel) (by rw [s_lens, List.length_map]; omega) fun t5 k5 => ?_
  rw [join_flat, hr]
  exact h _ _
theorem item_pick {a b c : Nat} {i : Int} (h0 : 0 ≤ i) (h1 : i < 3) (h : ∀ t', Q (.str (S [pick a b c i]) t') { s with toks := s.toks + 1 })
    (hs : subscripted slice false (.str (S [a, b, c]) t) (.int i u) = operate [.str (S [a, b, c]) t, .int i u] (getItem (.str (S [a, b, c]) t) (.int i u)))
    (ht : ∀ r, letTemporaryGo value (.str (S [a, b, c]) t) r = pure ()) :
    wpAny (model prog w) A (subscriptTail value slice (.str (S [a, b, c]) t) (.int i u)) Q E s := by
  refine item_str (fitsSsize_of (N := 9223372036854775808) (by omega) (by omega) (Int.le_refl _)) (by show -(3 : Int) ≤ _; omega) (by show _ < (3 : Int); omega) (fun _ => ?_) hs ht
  rw [it3 a b c h0 h1]
  exact h _
theorem slice_lets {x : Int} {ui uj : Tok} (hF : Fr h₀ L s.heap m) (hN : News h₀ L s.heap news)
    (h : ∀ a b c, LetOk a b c → ∀ h' t' k, Fr h₀ L h' m → News h₀ L h' news → Q (.str (S [a, b, c]) t') { s with heap := h', toks := k })
    (hs : subscripted slice false (.str (Str.ofString "\n \"#\\a" ++ Str.ofString "\n \"#\\a") t) (.ref s.heap.objs.size) = operate [.ref s.heap.objs.size, .str (Str.ofString "\n \"#\\a" ++ Str.ofString "\n \"#\\a") t] (getItem (.str (Str.ofString "\n \"#\\a" ++ Str.ofString "\n \"#\\a") t) (.ref s.heap.objs.size)))
    (ht : ∀ r, letTemporaryGo value (.str (Str.ofString "\n \"#\\a" ++ Str.ofString "\n \"#\\a") t) r = pure ()) :
    wpAny (model prog w) A (subscriptTail value slice (.str (Str.ofString "\n \"#\\a" ++ Str.ofString "\n \"#\\a") t) (.ref s.heap.objs.size)) Q E { s with heap := s.heap.push { cls := .type "slice", data := .fields #[.int (x.fmod 6) ui, .int (x.fmod 6 + 3) uj, .none] } } := by
  obtain ⟨a, b, c, els, hls⟩ := lets_ok x
  refine slice_strN_ss hF hN (fun h' t' k F' N' => ?_) hs ht (Nat.le_of_ble_eq_true (by decide +kernel))
  rw [els]
  exact h a b c hls h' t' k F' N'
end
theorem law_post (ns : List Int) : Challenge.rw_pe0106_01.row.claim.post [ofPy (PyData.list (List.map PyData.int ns))] (WData.bool true) [ofPy (PyData.list (List.map PyData.int ns))] = true := by
  w_on
  wrow_post
/-- the law's end: True, the heap grown, the two code tables at their places -/
def LawEnd (g0 : Heap) (L : Addr) (s1 : Shared) (f : Flow) (s' : Shared) : Prop := f = .ret (.bool true) ∧ (∃ m, Fr g0 L s'.heap m) ∧ s'.gens = s1.gens ∧ s'.os = s1.os ∧ GrownAt 96 s'.heap ∧ GrownAt 79 s'.heap
theorem fr_pin {h₀ h : Heap} {L : Addr} {m : Str → Option Value} {k : Str} {v : Value} (F : Fr h₀ L h m) (hk : m k = some v) : Fr h₀ L h (fun y => if y = k then some v else m y) := by
  have e : (fun y => if y = k then some v else m y) = m := funext fun y => by
    by_cases hy : y = k
    · rw [if_pos hy, hy, hk]
    · rw [if_neg hy]
  rw [e]; exact F
theorem fr_one {h₀ h : Heap} {L : Addr} {m : Str → Option Value} (k : Str) (v : Value) (F : Fr h₀ L h m) (hk : m k = some v) : ∃ m0 : Str → Option Value, Fr h₀ L h (fun y => if y = k then some v else m0 y) := ⟨_, fr_pin F hk⟩
theorem fr_four {h₀ h : Heap} {L : Addr} {m : Str → Option Value} (k1 k2 k3 k4 : Str) (v1 v2 v3 v4 : Value) (F : Fr h₀ L h m) (h1 : m k1 = some v1) (h2 : m k2 = some v2) (h3 : m k3 = some v3) (h4 : m k4 = some v4) (ne : k2 ≠ k1 ∧ k3 ≠ k1 ∧ k3 ≠ k2 ∧ k4 ≠ k1 ∧ k4 ≠ k2 ∧ k4 ≠ k3) :
    ∃ m0 : Str → Option Value, Fr h₀ L h (fun y => if y = k4 then some v4 else if y = k3 then some v3 else if y = k2 then some v2 else if y = k1 then some v1 else m0 y) := by
  obtain ⟨n1, n2, n3, n4, n5, n6⟩ := ne
  refine ⟨m, fr_pin (fr_pin (fr_pin (fr_pin F h1) ?_) ?_) ?_⟩
  · rw [if_neg n1]; exact h2
  · rw [if_neg n3, if_neg n2]; exact h3
  · rw [if_neg n6, if_neg n5, if_neg n4]; exact h4
theorem up1 {a b : Nat} (h : a < b) : a < b + 1 := Nat.lt_succ_of_lt h
theorem up2 {a b : Nat} (h : a < b) : a < b + 1 + 1 := up1 (up1 h)
theorem up3 {a b : Nat} (h : a < b) : a < b + 1 + 1 + 1 := up1 (up2 h)
theorem up4 {a b : Nat} (h : a < b) : a < b + 1 + 1 + 1 + 1 := up2 (up2 h)
theorem up5 {a b : Nat} (h : a < b) : a < b + 1 + 1 + 1 + 1 + 1 := up1 (up4 h)
/-- a new lexer's places, above a lower one -/
theorem lex_gt {z cw ca la f1 f2 ds dx lx pb : Nat} (h : z < cw) (o1 : cw < ca) (o2 : ca < la) (o3 : la < f1) (o4 : f1 < f2) (o5 : f2 < ds) (o6 : ds < dx) (o7 : dx < lx) (o8 : lx < pb) :
    z ≠ lx ∧ z ≠ dx ∧ z ≠ ds ∧ z ≠ f2 ∧ z ≠ la ∧ z ≠ pb ∧ z ≠ f1 ∧ z ≠ ca ∧ z ≠ cw := by
  refine ⟨?_, ?_, ?_, ?_, ?_, ?_, ?_, ?_, ?_⟩ <;> omega
theorem lex_la {cw ca la f1 f2 ds dx lx pb : Nat} (o1 : cw < ca) (o2 : ca < la) (o3 : la < f1) (o4 : f1 < f2) (o5 : f2 < ds) (o6 : ds < dx) (o7 : dx < lx) (o8 : lx < pb) : f1 ≠ la ∧ ca ≠ la ∧ cw ≠ la ∧ (∀ b : Nat, b < cw → b ≠ la) := by
  refine ⟨?_, ?_, ?_, fun b hb => ?_⟩ <;> omega
theorem lex_dx {cw ca la f1 f2 ds dx lx pb : Nat} (o1 : cw < ca) (o2 : ca < la) (o3 : la < f1) (o4 : f1 < f2) (o5 : f2 < ds) (o6 : ds < dx) (o7 : dx < lx) (o8 : lx < pb) : f1 ≠ dx ∧ ca ≠ dx ∧ cw ≠ dx ∧ (∀ b : Nat, b < cw → b ≠ dx) ∧ (∀ b : Nat, b < ds → b ≠ dx) := by
  refine ⟨?_, ?_, ?_, fun b hb => ?_, fun b hb => ?_⟩ <;> omega
section
theorem law_t : Challenge.rw_pe0106_01.Holds := by
  refine hd ?_
  k_go0
  all_goals (try k_fold)
  rename World => w
  rename Shared => s1
  rename_i ns hs_ hlay_ hLl_ hr_ hl2_ wa1 wa2 sc svs wa3 hL ra_ w1_ r0_ hI hr2_ hcd1 hcd2 hD_ h1 tk1 oT oX oW oL oN dT dX dW dL dN X0_ X' T' B' F' ch2 N' l0
  rename CodeHd _ (83, 79).fst _ => ch1

  clear hs_ hlay_ hLl_ hr_ hl2_ hL ra_ w1_ r0_ hr2_ hD_ X0_ hcd2
  generalize ghostOf s1.heap [(98, 96), (83, 79)] = g0 at *
  generalize s1.heap.objs.size = L0 at *
  dsimp only at ch1 ch2
  have CH : CodeHd g0 83 79 ∧ CodeHd g0 98 96 := ⟨ch1, ch2⟩
  clear ch1 ch2
  refine wpAny_mono (Q := LawEnd g0 L0 s1) (E := fun _ _ => False) ?_ (fun f s' hq => ?_) (fun _ _ f => f.elim)
  rotate_left
  · obtain ⟨rfl, ⟨m, F⟩, hg, ho, g96, g79⟩ := hq
    exact ⟨goodW_bool F (hg.trans (by assumption)) (fun _ => rfl) (law_post ns) ho, g96, g79, trivial⟩
  obtain ⟨m0, F0⟩ := fr_one (Str.ofString "script") (.ref sc) F' rfl
  clear F'
  repeat' ((fail_if_success (with_reducible show wpAny _ _ (eval (Expr.ListComp _ _ _ _) _) _ _ _)); (first | (k_unfold; (try dsimp only)) | (k_end; wrow_close) | walk1 | (dsimp only; walk1) | (leave1; walk_say "STEP leave1"; try dsimp only) | fail "no step"))
  try refine flat (s1 := s1) fun tkZ1 => ?_
  refine evalLC (by rfl) (by rfl) (by decide) (fun _ => rfl) ?_
  repeat' ((fail_if_success (with_reducible show wpAny _ _ (subscriptTail _ _ _ _) _ _ _)); (first | (k_unfold; (try dsimp only)) | (k_end; wrow_close) | walk1 | (dsimp only; walk1) | (leave1; walk_say "STEP leave1"; try dsimp only) | fail "no step"))
  rename Fr g0 L0 _ _ => F1
  rename News g0 L0 _ _ => N1
  have hsl : s1 = s1 := rfl
  have hl1 := lifted.at fun o e => F1.keep _ o e
  have hsvl : svs.length ≤ 63 := by have := hI.length; omega
  refine slc_any none (some 7) (svs.take 7) F1 N1 hl1 (by omega) .none (.int 7 _) (slc_to 7) (fun D2 h2 F2 N2 l2 => ?_) (by with_unfolding_all rfl) (by intro _; with_unfolding_all rfl)
  clear F1 N1 hl1
  repeat' ((fail_if_success (with_reducible show wpAny _ _ (pyIter _) _ _ _)); (first | (k_unfold; (try dsimp only)) | (k_end; wrow_close) | walk1 | (dsimp only; walk1) | (leave1; walk_say "STEP leave1"; try dsimp only) | fail "no step"))
  try refine flat (s1 := s1) fun tkZ2 => ?_
  have hI7 := hI.take 7
  have hLD := F2.ns.lt
  have hn2 := news_lt N2
  obtain ⟨led, hled⟩ : ∃ led : List (Addr × Obj), led = [(L0 + 1 + 1 + 1 + 1 + 1, oT), (L0 + 1 + 1 + 1 + 1, oX), (L0 + 1 + 1 + 1, oW), (L0 + 1 + 1, oL), (L0 + 1, oN), (96, tabObj #[]), (79, tabObj #[])] := ⟨_, rfl⟩
  refine src_list (vs := svs.take 7) (Led := fun (_ : Unit) => (D2, listOf (svs.take 7).toArray 0) :: led) (h₀ := g0) (by rfl) ⟨_, (N2 _ (.head _)).1, rfl, 0, rfl⟩ (.inl ⟨_, fun _ => .head _⟩) fun o2 hS2 => ?_
  refine lcOne (Led := fun (_ : Unit) => (D2, listOf (svs.take 7).toArray 0) :: led) (P := fun i _ ys => IntsAre ys (((ns.take 7).take i).map (·.fmod 120))) () hS2 (by decide) rfl rfl (F2.push _) (newsPush (by rw [hled]; exact N2) _) (fun _ => by rw [hled]; exact hn2) hLD (by rw [Heap.size_push]; exact Nat.lt_succ_self _) IntsAre.nil ?hlen ?turn ?fin
  (case hlen =>
    intro j _ ys hy
    rw [sizeLine_eq, hy.length, List.length_map, List.length_take, List.length_take]
    omega)
  (case turn =>
    intro D C i _ v ys oI oC mC k h tk hID hDC hv hi hP hm hd F3 N3
    clear F2 N2 hS2
    obtain ⟨n, t, rfl, hn⟩ := ints_get hI7 hv
    repeat' ((first | (k_unfold; (try dsimp only)) | (k_end; wrow_close) | walk1 | (dsimp only; walk1) | (leave1; walk_say "STEP leave1"; try dsimp only) | fail "no step"))
    exact ⟨(), _, _, rfl, by rw [map_snoc hn]; exact ints_snoc hP _ _, by assumption, by assumption⟩)
  (case fin => as_aux_lemma =>
    intro D C _ ys mC k h tk hID hDC hP hn PL F3 N3 hl
    refine finNone PL hn F3 N3 hl hDC fun h4 F4 N4 => ?_
    clear F3 N3 F2 N2 hS2
    repeat' ((fail_if_success (with_reducible show wpAny _ _ (subscriptTail _ _ _ _) _ _ _)); (first | (k_unfold; (try dsimp only)) | (k_end; wrow_close) | walk1 | (dsimp only; walk1) | (leave1; walk_say "STEP leave1"; try dsimp only) | fail "no step"))
    rename Fr g0 L0 _ _ => F5
    rename News g0 L0 _ _ => N5
    have hl5 := lifted.at fun o e => F5.keep _ o e
    refine slc_any none (some 7) (svs.take 7) F5 N5 hl5 (by omega) .none (.int 7 _) (slc_to 7) (fun D6 h6 F6 N6 l6 => ?_) (by with_unfolding_all rfl) (by intro _; with_unfolding_all rfl)
    clear F5 N5 hl5
    repeat' ((fail_if_success (with_reducible show wpAny _ _ (call (Value.builtin "len") _ _) _ _ _)); (first | (k_unfold; (try dsimp only)) | (k_end; wrow_close) | walk1 | (dsimp only; walk1) | (leave1; walk_say "STEP leave1"; try dsimp only) | fail "no step"))
    try refine flat (s1 := s1) fun tkZ3 => ?_
    refine Calls.call_len_list (items := (svs.take 7).toArray) ⟨_, (N6 _ (.head _)).1, rfl, 0, rfl⟩ (by simp; omega) ?_
    rw [show (svs.take 7).toArray.size = (svs.take 7).length from List.size_toArray ..]
    repeat' ((fail_if_success (with_reducible show wpAny _ _ (subscriptTail _ _ _ _) _ _ _)); (first | (k_unfold; (try dsimp only)) | (k_end; wrow_close) | walk1 | (dsimp only; walk1) | (leave1; walk_say "STEP leave1"; try dsimp only) | fail "no step"))
    rename Fr g0 L0 _ _ => F7
    rename News g0 L0 _ _ => N7
    have h7l : (svs.take 7).length = (ns.take 7).length := (hI.take 7).length
    obtain ⟨cv, hcv, N7⟩ := lit7 N7
    refine kba_turn (value' := Expr.Name (Str.ofString "numbers") default) (fun _ => rfl) ?_
    refine slc_any (some (((svs.take 7).length : Nat) : Int)) none (cv.drop (svs.take 7).length) F7 N7 ⟨_, (N7 _ (.tail _ (.head _))).1, rfl, 0, rfl⟩ (by rw [hcv.length]; simp) (.int _ _) .none (slc_from _) (fun D8 h8 F8 N8 l8 => ?_) (by with_unfolding_all rfl) (fun _ => rfl)
    clear F7
    repeat' ((fail_if_success (with_reducible show wpAny _ _ (binaryOp _ _ _) _ _ _)); (first | (k_unfold; (try dsimp only)) | (k_end; wrow_close) | walk1 | (dsimp only; walk1) | (leave1; walk_say "STEP leave1"; try dsimp only) | fail "no step"))
    try refine flat (s1 := s1) fun tkZ4 => ?_
    refine add_any F8 N8 (us := ys) ⟨_, (N8 (D, listOf ys.toArray k) (by k_mem)).1, rfl, k, rfl⟩ ⟨_, (N8 _ (.head _)).1, rfl, 0, rfl⟩ (by
      rw [hP.length, List.length_map, List.length_take, List.length_take, List.length_drop, hcv.length]; simp; omega) (fun D9 h9 F9 N9 l9 => ?_)
    clear F8 N8 N7
    rw [List.take_of_length_le (show (ns.take 7).length ≤ (svs.take 7).length from Nat.le_of_eq h7l.symm)] at hP
    have hN9 : IntsAre (ys ++ cv.drop (svs.take 7).length) (nums ns) := hP.append (by rw [h7l]; exact IntsAre.drop hcv _)
    obtain ⟨nvs, hnvs⟩ : ∃ nvs, nvs = ys ++ cv.drop (svs.take 7).length := ⟨_, rfl⟩
    rw [← hnvs] at hN9 N9
    clear hnvs
    have hb9 : True := trivial
    replace N9 : News g0 L0 h9 ((D9, listOf nvs.toArray 0) :: led) := newsSub N9 fun q hq => by
      rcases List.mem_cons.mp hq with rfl | hq
      · exact .head _
      · exact .tail _ (.tail _ (.tail _ (.tail _ (.tail _ (.tail _ hq)))))
    replace hb9 : AllLt D9 led := allLt_of fun q hq => l9 q (.tail _ (.tail _ (.tail _ (.tail _ (.tail _ hq)))))
    clear l9 l8 l6
    subst hled
    clear N7 hl
    simp only [AllLt, and_true] at hb9
    show wpAny _ _ _ _ _ _
    repeat' ((fail_if_success (with_reducible show wpAny _ _ (call (Value.builtin "sum") _ _) _ _ _)); (first | (k_unfold; (try dsimp only)) | (k_end; wrow_close) | walk1 | (dsimp only; walk1) | (leave1; walk_say "STEP leave1"; try dsimp only) | fail "no step"))
    try refine flat (s1 := s1) fun tkZ5 => ?_
    rename Fr g0 L0 _ _ => F10
    rename News g0 L0 _ _ => N10
    refine sumK (by with_unfolding_all rfl) F10 N10 ⟨_, (N10 _ (.head _)).1, rfl, 0, rfl⟩ hN9 fun h11 tk11 t11 F11 N11 => ?_
    clear F10 N10
    repeat' ((fail_if_success (with_reducible show wpAny _ _ (subscriptTail _ _ _ _) _ _ _)); (first | (k_unfold; (try dsimp only)) | (k_end; wrow_close) | walk1 | (dsimp only; walk1) | (leave1; walk_say "STEP leave1"; try dsimp only) | fail "no step"))
    rename Fr g0 L0 _ _ => F12
    rename News g0 L0 _ _ => N12
    with_unfolding_all refine' slice_lets (x := (nums ns).sum) F12 N12 (fun a b c hls h13 t13 k13 F13 N13 => ?_) ?hs ?ht
    (case hs => with_unfolding_all rfl)
    (case ht => intro _; rfl)
    clear F12 N12
    repeat' ((fail_if_success (with_reducible show wpAny _ _ (eval (Expr.ListComp _ _ _ _) _) _ _ _)); (first | (k_unfold; (try dsimp only)) | (k_end; wrow_close) | walk1 | (dsimp only; walk1) | (leave1; walk_say "STEP leave1"; try dsimp only) | fail "no step"))
    try refine flat (s1 := s1) fun tkZ6 => ?_
    refine flat (s1 := s1) fun tkA => ?_
    refine evalLC (by rfl) (by rfl) (by decide) (fun _ => rfl) ?_
    repeat' ((fail_if_success (with_reducible show wpAny _ _ (subscriptTail _ _ _ _) _ _ _)); (first | (k_unfold; (try dsimp only)) | (k_end; wrow_close) | walk1 | (dsimp only; walk1) | (leave1; walk_say "STEP leave1"; try dsimp only) | fail "no step"))
    rename Fr g0 L0 _ _ => Fa
    rename News g0 L0 _ _ => Na
    have hnl : nvs.length = 7 := hN9.length.trans (nums_len ns)
    refine slc_any none (some 3) (nvs.take 3) Fa Na ⟨_, (Na (D9, listOf nvs.toArray 0) (by k_mem)).1, rfl, 0, rfl⟩ (by omega) .none (.int 3 _) (slc_to 3) (fun Db hb Fb Nb lb => ?_) (by with_unfolding_all rfl) (by intro _; with_unfolding_all rfl)
    clear Fa Na
    repeat' ((fail_if_success (with_reducible show wpAny _ _ (pyIter _) _ _ _)); (first | (k_unfold; (try dsimp only)) | (k_end; wrow_close) | walk1 | (dsimp only; walk1) | (leave1; walk_say "STEP leave1"; try dsimp only) | fail "no step"))
    try refine flat (s1 := s1) fun tkZ7 => ?_
    have hIz : IntsAre (nvs.take 3) ((nums ns).take 3) := hN9.take 3
    have hzl : ((nums ns).take 3).length ≤ 3 := by simp; omega
    have hLD := Fb.ns.lt
    have hnb := news_lt Nb
    refine src_listN Nb (by rfl) fun o2 hS2 => ?_
    refine lcTest _ (P := fun i _ ys => StrsAre ys ((one (wd a b c (((nums ns).take 3).take i))).map S)) () hS2 (by decide) rfl rfl (Fb.push _) (newsPush Nb _) (fun _ => hnb) hLD (by rw [Heap.size_push]; exact Nat.lt_succ_self _) StrsAre.nil ?hlen ?turn ?fin
    (case hlen =>
      intro j _ ys hy
      have h1 := wd_len a b c (((nums ns).take 3).take j)
      rw [sizeLine_eq, hy.length, List.length_map, one, List.length_map]
      rw [List.length_take] at h1
      omega)
    (case turn =>
      intro D C i _ v ys oI oC mC k h tk hID hDC hv hi hP hm hd F3 N3
      clear Fb Nb hS2
      dsimp only at N3
      obtain ⟨n, t, rfl, hn⟩ := ints_get hIz hv
      have hn0 : 0 ≤ n.fmod 4 := Int.fmod_nonneg_of_pos n (by decide)
      repeat' ((fail_if_success (with_reducible show wpAny _ _ (subscriptTail _ _ _ _) _ _ _)); (first | (k_unfold; (try dsimp only)) | (k_end; wrow_close) | walk1 | (dsimp only; walk1) | (leave1; walk_say "STEP leave1"; try dsimp only) | fail "no step"))
      · rename (n.fmod 4 < 3) => hn3
        have key : ∀ tk, StrsAre (ys ++ [.str (S [pick a b c (n.fmod 4)]) tk]) ((one (wd a b c (((nums ns).take 3).take (i + 1)))).map S) := fun tk => by
          rw [wd_snoc hn, if_pos hn3, one, List.map_append, List.map_append]
          exact hP.append' (.cons _ _ .nil)
        refine item_pick hn0 hn3 (fun tk => ?_) (by with_unfolding_all rfl) (fun _ => rfl)
        exact ⟨(), _, _, rfl, key _, by assumption, by assumption⟩
      · rename (¬ n.fmod 4 < 3) => hn3
        have key : StrsAre ys ((one (wd a b c (((nums ns).take 3).take (i + 1)))).map S) := by rw [wd_snoc hn, if_neg hn3, List.append_nil]; exact hP
        exact ⟨(), _, _, rfl, key, by assumption, by assumption⟩)
    (case fin => as_aux_lemma =>
      intro D C _ ys mC k h tk hID hDC hP hn PL F3 N3 hl
      refine finNone PL hn F3 N3 hl hDC fun h4 F4 N4 => ?_
      clear F3 N3 Fb Nb hS2 hnb
      have hzz : (nvs.take 3).length = ((nums ns).take 3).length := hIz.length
      rw [List.take_of_length_le (Nat.le_of_eq hzz.symm)] at hP
      have hwl := wd_len a b c ((nums ns).take 3)
      have hsum := one_sum (wd a b c ((nums ns).take 3))
      repeat' ((fail_if_success (with_reducible show wpAny _ _ (call (Value.builtin "str.join") _ _) _ _ _)); (first | (k_unfold; (try dsimp only)) | (k_end; wrow_close) | walk1 | (dsimp only; walk1) | (leave1; walk_say "STEP leave1"; try dsimp only) | fail "no step"))
      try refine flat (s1 := s1) fun tkZ8 => ?_
      try dsimp only [List.singleton_append, List.cons_append, List.nil_append]
      obtain ⟨u1, hu1⟩ : ∃ u, u = wd a b c ((nums ns).take 3) := ⟨_, rfl⟩
      refine join_ws u1 N4 hP (by rw [one_flat, hu1]) (by rw [hsum]; omega) (by rw [one, List.length_map]; omega) fun t5 k5 => ?_
      rw [← hu1] at hwl
      repeat' ((fail_if_success (with_reducible show wpAny _ _ (eval (Expr.ListComp _ _ _ _) _) _ _ _)); (first | (k_unfold; (try dsimp only)) | (k_end; wrow_close) | walk1 | (dsimp only; walk1) | (leave1; walk_say "STEP leave1"; try dsimp only) | fail "no step"))
      try refine flat (s1 := s1) fun tkZ9 => ?_
      rename News g0 L0 _ _ => Nz
      replace Nz := news_two Nz
      refine flat (s1 := s1) fun tkB => ?_
      refine evalLC (by rfl) (by rfl) (by decide) (fun _ => rfl) ?_
      repeat' ((fail_if_success (with_reducible show wpAny _ _ (subscriptTail _ _ _ _) _ _ _)); (first | (k_unfold; (try dsimp only)) | (k_end; wrow_close) | walk1 | (dsimp only; walk1) | (leave1; walk_say "STEP leave1"; try dsimp only) | fail "no step"))
      rename Fr g0 L0 _ _ => Fa
      rename News g0 L0 _ _ => Na
      have hnl : nvs.length = 7 := hN9.length.trans (nums_len ns)
      refine slc_any (some 3) (some 6) ((nvs.drop 3).take 3) Fa Na ⟨_, (Na (D9, listOf nvs.toArray 0) (by k_mem)).1, rfl, 0, rfl⟩ (by omega) (.int 3 _) (.int 6 _) (slc_run 3 6 (by omega) (by decide)) (fun Db hb Fb Nb lb => ?_) (by with_unfolding_all rfl) (by intro _; with_unfolding_all rfl)
      clear Fa Na
      repeat' ((fail_if_success (with_reducible show wpAny _ _ (pyIter _) _ _ _)); (first | (k_unfold; (try dsimp only)) | (k_end; wrow_close) | walk1 | (dsimp only; walk1) | (leave1; walk_say "STEP leave1"; try dsimp only) | fail "no step"))
      try refine flat (s1 := s1) fun tkZ10 => ?_
      have hIz : IntsAre ((nvs.drop 3).take 3) (((nums ns).drop 3).take 3) := (hN9.drop 3).take 3
      have hzl : (((nums ns).drop 3).take 3).length ≤ 3 := by simp; omega
      have hLD := Fb.ns.lt
      have hnb := news_lt Nb
      refine src_listN Nb (by rfl) fun o2 hS2 => ?_
      refine lcTest _ (P := fun i _ ys => StrsAre ys ((one (wd a b c ((((nums ns).drop 3).take 3).take i))).map S)) () hS2 (by decide) rfl rfl (Fb.push _) (newsPush Nb _) (fun _ => hnb) hLD (by rw [Heap.size_push]; exact Nat.lt_succ_self _) StrsAre.nil ?hlen ?turn ?fin
      (case hlen =>
        intro j _ ys hy
        have h1 := wd_len a b c ((((nums ns).drop 3).take 3).take j)
        rw [sizeLine_eq, hy.length, List.length_map, one, List.length_map]
        rw [List.length_take] at h1
        omega)
      (case turn =>
        intro D C i _ v ys oI oC mC k h tk hID hDC hv hi hP hm hd F3 N3
        clear Fb Nb hS2
        dsimp only at N3
        obtain ⟨n, t, rfl, hn⟩ := ints_get hIz hv
        have hn0 : 0 ≤ n.fmod 4 := Int.fmod_nonneg_of_pos n (by decide)
        repeat' ((fail_if_success (with_reducible show wpAny _ _ (subscriptTail _ _ _ _) _ _ _)); (first | (k_unfold; (try dsimp only)) | (k_end; wrow_close) | walk1 | (dsimp only; walk1) | (leave1; walk_say "STEP leave1"; try dsimp only) | fail "no step"))
        · rename (n.fmod 4 < 3) => hn3
          have key : ∀ tk, StrsAre (ys ++ [.str (S [pick a b c (n.fmod 4)]) tk]) ((one (wd a b c ((((nums ns).drop 3).take 3).take (i + 1)))).map S) := fun tk => by
            rw [wd_snoc hn, if_pos hn3, one, List.map_append, List.map_append]
            exact hP.append' (.cons _ _ .nil)
          refine item_pick hn0 hn3 (fun tk => ?_) (by with_unfolding_all rfl) (fun _ => rfl)
          exact ⟨(), _, _, rfl, key _, by assumption, by assumption⟩
        · rename (¬ n.fmod 4 < 3) => hn3
          have key : StrsAre ys ((one (wd a b c ((((nums ns).drop 3).take 3).take (i + 1)))).map S) := by rw [wd_snoc hn, if_neg hn3, List.append_nil]; exact hP
          exact ⟨(), _, _, rfl, key, by assumption, by assumption⟩)
      (case fin => as_aux_lemma =>
        intro D C _ ys mC k h tk hID hDC hP hn PL F3 N3 hl
        refine finNone PL hn F3 N3 hl hDC fun h4 F4 N4 => ?_
        clear F3 N3 Fb Nb hS2 hnb
        have hzz : ((nvs.drop 3).take 3).length = (((nums ns).drop 3).take 3).length := hIz.length
        rw [List.take_of_length_le (Nat.le_of_eq hzz.symm)] at hP
        have hwl := wd_len a b c (((nums ns).drop 3).take 3)
        have hsum := one_sum (wd a b c (((nums ns).drop 3).take 3))
        repeat' ((fail_if_success (with_reducible show wpAny _ _ (call (Value.builtin "str.join") _ _) _ _ _)); (first | (k_unfold; (try dsimp only)) | (k_end; wrow_close) | walk1 | (dsimp only; walk1) | (leave1; walk_say "STEP leave1"; try dsimp only) | fail "no step"))
        try refine flat (s1 := s1) fun tkZ11 => ?_
        try dsimp only [List.singleton_append, List.cons_append, List.nil_append]
        obtain ⟨u2, hu2⟩ : ∃ u, u = wd a b c (((nums ns).drop 3).take 3) := ⟨_, rfl⟩
        refine join_ws u2 N4 hP (by rw [one_flat, hu2]) (by rw [hsum]; omega) (by rw [one, List.length_map]; omega) fun t5 k5 => ?_
        rw [← hu2] at hwl
        clear hzl hzz hsum hP hIz
        have hwlA : u1.length ≤ ((nums ns).take 3).length := by rw [hu1]; exact wd_len ..
        repeat' ((fail_if_success (with_reducible show wpAny _ _ (subscriptTail _ _ _ _) _ _ _)); (first | (k_unfold; (try dsimp only)) | (k_end; wrow_close) | walk1 | (dsimp only; walk1) | (leave1; walk_say "STEP leave1"; try dsimp only) | fail "no step"))
        rename News g0 L0 _ _ => Nz
        replace Nz := news_two Nz
        obtain ⟨n6, hn6⟩ : ∃ n, (nums ns)[6]? = some n := ⟨_, List.getElem?_eq_getElem (by rw [nums_len]; decide)⟩
        obtain ⟨t6, ht6⟩ := hN9.get 6 n6 hn6
        refine item_litK (vs := nvs) (k := 6) ⟨_, (Nz (D9, listOf nvs.toArray 0) (by k_mem)).1, rfl, 0, rfl⟩ (by decide) (by decide) ht6 ?_
        repeat' ((fail_if_success (with_reducible show wpAny _ _ (subscriptTail _ _ _ _) _ _ _)); (first | (k_unfold; (try dsimp only)) | (k_end; wrow_close) | walk1 | (dsimp only; walk1) | (leave1; walk_say "STEP leave1"; try dsimp only) | fail "no step"))
        have h60 : 0 ≤ n6.fmod 3 := Int.fmod_nonneg_of_pos n6 (by decide)
        have h63 : n6.fmod 3 < 3 := Int.fmod_lt_of_pos n6 (by decide)
        obtain ⟨e, he⟩ : ∃ e, e = pick a b c (n6.fmod 3) := ⟨_, rfl⟩
        refine item_pick h60 h63 (fun tk6 => ?_) (by with_unfolding_all rfl) (fun _ => rfl)
        rw [← he]
        show wpAny _ _ _ _ _ _
        repeat' ((fail_if_success (with_reducible show wpAny _ _ (eval (Expr.ListComp _ _ _ _) _) _ _ _)); (first | (k_unfold; (try dsimp only)) | (k_end; wrow_close) | walk1 | (dsimp only; walk1) | (leave1; walk_say "STEP leave1"; try dsimp only) | fail "no step"))
        try refine flat (s1 := s1) fun tkZ12 => ?_
        rename News g0 L0 _ _ => Nz
        obtain ⟨wv, hwv, Nz⟩ := lit3 Nz
        rename (D9 < _ ∧ _) => lW
        refine flat (s1 := s1) fun tkC => ?_
        refine evalLC (by rfl) (by rfl) (by decide) (fun _ => rfl) ?_
        repeat' ((fail_if_success (with_reducible show wpAny _ _ (pyIter _) _ _ _)); (first | (k_unfold; (try dsimp only)) | (k_end; wrow_close) | walk1 | (dsimp only; walk1) | (leave1; walk_say "STEP leave1"; try dsimp only) | fail "no step"))
        try refine flat (s1 := s1) fun tkZ13 => ?_
        rename Fr g0 L0 _ _ => Fa
        rename News g0 L0 _ _ => Na
        rename IsRange _ _ _ _ _ _ _ _ => hr
        dsimp only at hr
        have hLa := Fa.ns.lt
        have hna := news_lt Na
        have hu1l : u1.length ≤ 3 := by have h1 := hnl; rw [List.length_take] at hwlA; omega
        have hu2l : u2.length ≤ 3 := by rw [List.length_take] at hwl; omega
        have hw3 : ∀ u ∈ [u1, [e], u2], u.length ≤ 3 := by
          intro u hu
          simp only [List.mem_cons, List.not_mem_nil, or_false] at hu
          rcases hu with rfl | rfl | rfl
          · exact hu1l
          · simp
          · exact hu2l
        refine src_rangeN (n := 3) Na (by rfl) hr (by decide) fun o3 hS3 => ?_
        refine lcOne _ (P := fun i _ ys => StrsAre ys (((wrs [u1, [e], u2] (nums ns)).take i).map S)) () hS3 (by decide) rfl rfl (Fa.push _) (newsPush Na _) (fun _ => hna) hLa (by rw [Heap.size_push]; exact Nat.lt_succ_self _) StrsAre.nil ?hlen ?turn ?fin
        (case hlen =>
          intro j _ ys hy
          rw [sizeLine_eq, hy.length, List.length_map, List.length_take, wrs_len]
          have := nums_len ns
          simp only [List.length_cons, List.length_nil]
          omega)
        (case turn =>
          intro D C i _ v ys oI oC mC k h tk hID hDC hv hi hP hm hd F3 N3
          clear Fa Na hS3
          dsimp only at N3
          obtain ⟨t, rfl⟩ := hv
          repeat' ((fail_if_success (with_reducible show wpAny _ _ (subscriptTail _ _ _ _) _ _ _)); (first | (k_unfold; (try dsimp only)) | (k_end; wrow_close) | walk1 | (dsimp only; walk1) | (leave1; walk_say "STEP leave1"; try dsimp only) | fail "no step"))
          rename Fr g0 L0 _ _ => F4
          rename News g0 L0 _ _ => N4
          obtain ⟨ui, hui⟩ : ∃ u, [u1, [e], u2][i]? = some u := ⟨_, List.getElem?_eq_getElem (by simpa using hi)⟩
          obtain ⟨xi, hxi⟩ : ∃ x, (nums ns)[i]? = some x := ⟨_, List.getElem?_eq_getElem (by rw [nums_len]; omega)⟩
          have hui3 := hw3 ui (List.mem_of_getElem? hui)
          obtain ⟨tw, htw⟩ := strs_idx hwv hui
          obtain ⟨tx, htx⟩ := hN9.get i xi hxi
          refine item_litK (vs := wv) (k := (i : Int)) ⟨_, (N4 (_, listOf wv.toArray 0) (by k_mem)).1, rfl, 0, rfl⟩ (by omega) (by omega) (by simpa using htw) ?_
          repeat' ((fail_if_success (with_reducible show wpAny _ _ (subscriptTail _ _ _ _) _ _ _)); (first | (k_unfold; (try dsimp only)) | (k_end; wrow_close) | walk1 | (dsimp only; walk1) | (leave1; walk_say "STEP leave1"; try dsimp only) | fail "no step"))
          rename Fr g0 L0 _ _ => F5
          rename News g0 L0 _ _ => N5
          refine item_litK (vs := nvs) (k := (i : Int)) ⟨_, (N5 (D9, listOf nvs.toArray 0) (by k_mem)).1, rfl, 0, rfl⟩ (by omega) (by omega) (by simpa using htx) ?_
          repeat' ((fail_if_success (with_reducible show wpAny _ _ (call (Value.ref _) _ _) _ _ _)); (first | (k_unfold; (try dsimp only)) | (k_end; wrow_close) | walk1 | (dsimp only; walk1) | (leave1; walk_say "STEP leave1"; try dsimp only) | fail "no step"))
          try refine flat (s1 := s1) fun tkZ14 => ?_
          rename Fr g0 L0 _ _ => F6
          rename News g0 L0 _ _ => N6
          k_dflt (refine' ctr_use (written_ok w ui _ tw (by omega)) X' B' F6 N6 T' rfl ?dp ?un ?_)
          (case dp => decide)
          (case un => decide)
          rintro _ h7 tk7 ⟨t7, rfl⟩ F7 N7
          clear F6 N6
          have key : ∀ tk, StrsAre (ys ++ [.str (S (wr ui ((xi.fdiv 4).fmod 2 == 0))) tk]) (((wrs [u1, [e], u2] (nums ns)).take (i + 1)).map S) := fun tk => by
            rw [List.take_add_one, wrs_get hui hxi, List.map_append]
            exact hP.append' (.cons _ _ .nil)
          repeat' ((first | (k_unfold; (try dsimp only)) | (k_end; wrow_close) | walk1 | (dsimp only; walk1) | (leave1; walk_say "STEP leave1"; try dsimp only) | fail "no step"))
          exact ⟨(), _, _, rfl, key _, by assumption, by assumption⟩)
        (case fin => as_aux_lemma =>
          intro D C _ ys mC k h tk hID hDC hP hn PL F3 N3 hl
          refine finNone PL hn F3 N3 hl hDC fun h4 F4 N4 => ?_
          clear F3 N3 Fa Na hS3 hna
          rw [List.take_of_length_le (show (wrs [u1, [e], u2] (nums ns)).length ≤ 3 by rw [wrs_len]; exact Nat.min_le_left ..)] at hP
          have hsum := wrs_sum [u1, [e], u2] (nums ns) hw3
          have hwn : (wrs [u1, [e], u2] (nums ns)).length ≤ 3 := by rw [wrs_len]; exact Nat.min_le_left ..
          repeat' ((fail_if_success (with_reducible show wpAny _ _ (call (Value.builtin "str.join") _ _) _ _ _)); (first | (k_unfold; (try dsimp only)) | (k_end; wrow_close) | walk1 | (dsimp only; walk1) | (leave1; walk_say "STEP leave1"; try dsimp only) | fail "no step"))
          try refine flat (s1 := s1) fun tkZ15 => ?_
          try dsimp only [List.singleton_append, List.cons_append, List.nil_append]
          obtain ⟨txt, htxt⟩ : ∃ txt, txt = (wrs [u1, [e], u2] (nums ns)).flatten := ⟨_, rfl⟩
          refine join_ws txt N4 hP htxt.symm (by simp only [List.length_cons, List.length_nil] at hsum; omega) (by omega) fun t5 k5 => ?_
          show wpAny _ _ _ _ _ _
          rename Fr g0 L0 _ _ => F5
          rename News g0 L0 _ _ => N5
          repeat' ((fail_if_success (with_reducible show wpAny _ _ (call (Value.ref _) _ _) _ _ _)); (first | (k_unfold; (try dsimp only)) | (k_end; wrow_close) | walk1 | (dsimp only; walk1) | (leave1; walk_say "STEP leave1"; try dsimp only) | fail "no step"))
          try refine flat (s1 := s1) fun tkZ16 => ?_
          rename Fr g0 L0 _ _ => F6
          rename News g0 L0 _ _ => N6
          replace N6 := law_perm N6
          have htl : txt.length ≤ 24 := by
            rw [htxt, List.length_flatten]
            simp only [List.length_cons, List.length_nil] at hsum
            omega
          refine flat (s1 := s1) fun tkD => ?_
          k_dflt (refine' ctrN_use (lex_ok0 w (S txt) t5 (by show txt.length < 1000; omega) _ ?hlow) X' B' F6 N6 T' CH rfl ?dp ?un ?_)
          (case hlow =>
            have hz := l0.2
            have h9z := hb9.2.2.2.2.2.2
            have hwz := lW.2.2.2.2.2.2.2
            exact List.forall_mem_cons.mpr ⟨up4 hz, List.forall_mem_cons.mpr ⟨up5 hz, List.forall_mem_cons.mpr ⟨hwz, List.forall_mem_cons.mpr ⟨h9z, List.forall_mem_cons.mpr ⟨up3 hz, List.forall_mem_cons.mpr ⟨up2 hz, List.forall_mem_cons.mpr ⟨up1 hz, List.forall_mem_cons.mpr ⟨(by decide : (79 : Nat) < 96), List.forall_mem_nil _⟩⟩⟩⟩⟩⟩⟩⟩)
          (case dp => decide)
          (case un => decide)
          rintro _ _ h7 tk7 ⟨x, c1, oc1, c2, oc2, fd2, fd1, rfl, rfl, hok79, hx2, hx1, ord1, ord2, hRd⟩ F7 N7
          clear F6 N6
          repeat' ((fail_if_success (with_reducible show wpAny _ _ (storeName _ _ _) _ _ _)); (first | (k_unfold; (try dsimp only)) | (k_end; wrow_close) | walk1 | (dsimp only; walk1) | (leave1; walk_say "STEP leave1"; try dsimp only) | fail "no step"))
          try refine flat (s1 := s1) fun tkZ17 => ?_
          have N8 := lex_re N7 hx2 hx1
          clear N7 hx2
          have oc1X : c1 ≠ L0 + 1 + 1 + 1 + 1 := ne_of_obj N8 (o := oc1) (o' := oX) (by simp) (.head _) (by
            rintro rfl
            obtain ⟨⟨vs, t, e1, _⟩, _⟩ := hok79
            rw [e1] at dX; cases dX)
          have oc2X : c2 ≠ L0 + 1 + 1 + 1 + 1 := ne_of_obj N8 (o := oc2) (o' := oX) (by simp) (.head _) (by
            rintro rfl
            obtain ⟨_, ⟨vs, t, e1, _⟩⟩ := hok79
            rw [e1] at dX; cases dX)
          obtain ⟨oA, o79, oB, oC2, oD, oE, oF, oG, oH, oI2⟩ := ord1
          have hA2 := ltN oA.1
          refine storeX_C F7 N8 (by rfl) (UpdF.head ?hne) dX (fun h9 o9 F9 N9 d9 => ?_)
          (case hne =>
            have z96 := l0.1
            have zW := lW.2.2.1
            have zD := hb9.2.1
            dsimp only at hA2
            simp only [lexRows, List.cons_append, List.nil_append]
            obtain ⟨g1, g2, g3, g4, g5, g6, g7, g8, g9⟩ := lex_gt hA2 oB oC2 oD oE oF oG oH oI2
            refine List.forall_mem_cons.mpr ⟨Ne.symm g1, List.forall_mem_cons.mpr ⟨Ne.symm g2, List.forall_mem_cons.mpr ⟨Ne.symm g3, List.forall_mem_cons.mpr ⟨Ne.symm g4, List.forall_mem_cons.mpr ⟨Ne.symm g5, ?_⟩⟩⟩⟩⟩
            refine List.forall_mem_cons.mpr ⟨Ne.symm g6, List.forall_mem_cons.mpr ⟨Ne.symm g7, List.forall_mem_cons.mpr ⟨Ne.symm g8, List.forall_mem_cons.mpr ⟨Ne.symm g9, List.forall_mem_cons.mpr ⟨Nat.ne_of_lt (up4 l0.2), List.forall_mem_cons.mpr ⟨oc1X, List.forall_mem_cons.mpr ⟨oc2X, ?_⟩⟩⟩⟩⟩⟩⟩
            refine List.forall_mem_cons.mpr ⟨Nat.ne_of_gt (Nat.lt_succ_self _), List.forall_mem_cons.mpr ⟨Nat.ne_of_gt zW, List.forall_mem_cons.mpr ⟨Nat.ne_of_gt zD, List.forall_mem_cons.mpr ⟨Nat.ne_of_lt (Nat.lt_succ_self _), List.forall_mem_cons.mpr ⟨Nat.ne_of_lt (up1 (Nat.lt_succ_self _)), List.forall_mem_cons.mpr ⟨Nat.ne_of_lt (up2 (Nat.lt_succ_self _)), List.forall_mem_cons.mpr ⟨Nat.ne_of_lt (up4 z96), List.forall_mem_nil _⟩⟩⟩⟩⟩⟩⟩)
          clear F7 N8
          replace N9 := lex_swap N9
          repeat' ((fail_if_success (with_reducible show wpAny _ _ (exec (Stmt.Assign _ (Expr.ListComp _ _ _ _) _) _) _ _ _)); (first | (k_unfold; (try dsimp only)) | (k_end; wrow_close) | walk1 | (dsimp only; walk1) | (leave1; walk_say "STEP leave1"; try dsimp only) | fail "no step"))
          try refine flat (s1 := s1) fun tkZ18 => ?_
          rename Fr g0 L0 _ _ => Fa
          rename News g0 L0 _ _ => Na
          refine flat (s1 := s1) fun tkE => ?_
          refine assignLC (by rfl) (by rfl) (by rfl) (by decide) (fun _ => rfl) ?_
          repeat' ((fail_if_success (with_reducible show wpAny _ _ (pyIter _) _ _ _)); (first | (k_unfold; (try dsimp only)) | (k_end; wrow_close) | walk1 | (dsimp only; walk1) | (leave1; walk_say "STEP leave1"; try dsimp only) | fail "no step"))
          try refine flat (s1 := s1) fun tkZ19 => ?_
          rename Fr g0 L0 _ _ => Fb
          rename News g0 L0 _ _ => Nb
          rename IsRange _ _ _ _ _ _ _ _ => hr
          dsimp only at hr
          obtain ⟨RS, hRS, Nb⟩ := split_rs Nb
          have hLb := Fb.ns.lt
          have hnb := news_lt Nb
          have hlaI := hnb (x.la, _) (.tail _ (.tail _ (.tail _ (.tail _ (.head _)))))
          have hdxI := hnb (x.dx, _) (.tail _ (.head _))
          dsimp only at hlaI hdxI
          have hadr : ∀ c : LxS, ∀ q ∈ (lexRows w x.lx x.dx x.ds x.f2 x.f1 x.la x.pb x.q1 x.q2 x.q3 x.q4 c.t1 x.t2 x.tq c.ti c.ne x.n5 c.nl fd2 c.n c.i ++ ((x.pb, listOf ([] : List Value).toArray x.np) :: (L0 + 1 + 1 + 1 + 1, o9) :: RS)), q.1 < _ := fun c => adr_lt hnb rfl
          have hneed : ∀ q ∈ [(x.f1, x.of1), (x.ca, x.oca), (x.cw, x.ocw), (c1, oc1)], q ∈ RS := by
            rw [hRS, hx1]
            exact List.forall_mem_cons.mpr ⟨by k_mem, List.forall_mem_cons.mpr ⟨by k_mem, List.forall_mem_cons.mpr ⟨by k_mem, List.forall_mem_cons.mpr ⟨by k_mem, List.forall_mem_nil _⟩⟩⟩⟩
          have hf1R : (x.f1, ({ cls := .type "function", data := .func fd1 } : Obj)) ∈ RS := by rw [hRS]; k_mem
          have hRla : ∀ q ∈ (L0 + 1 + 1 + 1 + 1, o9) :: RS, q.1 ≠ x.la := by
            rw [hRS]
            obtain ⟨e1, e2, e3, g⟩ := lex_la oB oC2 oD oE oF oG oH oI2
            exact List.forall_mem_cons.mpr ⟨g _ oA.1, List.forall_mem_cons.mpr ⟨e1, List.forall_mem_cons.mpr ⟨e2, List.forall_mem_cons.mpr ⟨e3, List.forall_mem_cons.mpr ⟨g _ o79, List.forall_mem_cons.mpr ⟨ord2.2.2.1, List.forall_mem_cons.mpr ⟨ord2.2.2.2.1, List.forall_mem_cons.mpr ⟨g _ oA.2.1, List.forall_mem_cons.mpr ⟨g _ oA.2.2.1, List.forall_mem_cons.mpr ⟨g _ oA.2.2.2.1, List.forall_mem_cons.mpr ⟨g _ oA.2.2.2.2.1, List.forall_mem_cons.mpr ⟨g _ oA.2.2.2.2.2.1, List.forall_mem_cons.mpr ⟨g _ oA.2.2.2.2.2.2.1, List.forall_mem_cons.mpr ⟨g _ oA.2.2.2.2.2.2.2.1, List.forall_mem_nil _⟩⟩⟩⟩⟩⟩⟩⟩⟩⟩⟩⟩⟩⟩
          have hRdx : ∀ q ∈ (L0 + 1 + 1 + 1 + 1, o9) :: RS, q.1 ≠ x.dx := by
            rw [hRS]
            obtain ⟨e1, e2, e3, g, gd⟩ := lex_dx oB oC2 oD oE oF oG oH oI2
            exact List.forall_mem_cons.mpr ⟨g _ oA.1, List.forall_mem_cons.mpr ⟨e1, List.forall_mem_cons.mpr ⟨e2, List.forall_mem_cons.mpr ⟨e3, List.forall_mem_cons.mpr ⟨g _ o79, List.forall_mem_cons.mpr ⟨gd _ ord2.1, List.forall_mem_cons.mpr ⟨gd _ ord2.2.1, List.forall_mem_cons.mpr ⟨g _ oA.2.1, List.forall_mem_cons.mpr ⟨g _ oA.2.2.1, List.forall_mem_cons.mpr ⟨g _ oA.2.2.2.1, List.forall_mem_cons.mpr ⟨g _ oA.2.2.2.2.1, List.forall_mem_cons.mpr ⟨g _ oA.2.2.2.2.2.1, List.forall_mem_cons.mpr ⟨g _ oA.2.2.2.2.2.2.1, List.forall_mem_cons.mpr ⟨g _ oA.2.2.2.2.2.2.2.1, List.forall_mem_nil _⟩⟩⟩⟩⟩⟩⟩⟩⟩⟩⟩⟩⟩⟩
          refine src_range (Led := fun (c : LxS) => lexRows w x.lx x.dx x.ds x.f2 x.f1 x.la x.pb x.q1 x.q2 x.q3 x.q4 c.t1 x.t2 x.tq c.ti c.ne x.n5 c.nl fd2 c.n c.i ++ ((x.pb, listOf ([] : List Value).toArray x.np) :: (L0 + 1 + 1 + 1 + 1, o9) :: RS)) (n := 4) (h₀ := g0) (by rfl) hr (by decide) fun o4 hS4 => ?_
          refine lcOne (σ := LxS) _ (P := fun j c ys => StrsAre ys ((([u1, [e], u2] ++ [[]]).take j).map S) ∧ c.i = ((wrs [u1, [e], u2] (nums ns)).take j).flatten.length ∧ c.n = 1 + ((((wrs [u1, [e], u2] (nums ns)).take j).flatten.count 10 : Nat) : Int)) ⟨x.t1, x.tl, x.ne, x.nl, 1, 0⟩ hS4 (by decide) rfl rfl (Fb.push _) (newsPush Nb _) hadr hLb (by rw [Heap.size_push]; exact Nat.lt_succ_self _) ⟨StrsAre.nil, rfl, rfl⟩ ?hlen ?turn ?fin
          (case hlen =>
            intro j _ ys hy
            rw [sizeLine_eq, hy.1.length, List.length_map, List.length_take]
            simp only [List.length_append, List.length_cons, List.length_nil]
            omega)
          (case turn =>
            intro D C j c v ys oI oC mC k h tk hID hDC hv hj hP hm hd F3 N3
            clear Fb Nb hS4
            dsimp only at N3
            have N4 := N3
            simp only [lexRows, List.cons_append, List.nil_append] at N3
            obtain ⟨t, rfl⟩ := hv
            obtain ⟨uj, kj, cj, hu, ht, hk1, hc1⟩ := tok_at (us := [u1, [e], u2]) (xs := nums ns) (by rw [nums_len]; simp) (j := j) hj
            have hu4 : uj.length ≤ 3 := by
              rcases List.mem_append.mp (List.mem_of_getElem? hu) with hm4 | hm4
              · exact hw3 uj hm4
              · rw [List.mem_singleton.mp hm4]; exact Nat.zero_le _
            have hci : c.i ≤ (S txt).length := by
              rw [hP.2.1]
              show _ ≤ txt.length
              rw [htxt]; exact flat_take_le _ _
            have ht2 : TokIs ((S txt).cps.toList.drop c.i) uj kj cj := by
              rw [hP.2.1, show (S txt).cps.toList = txt from rfl, htxt]; exact ht
            have hCla : C ≠ x.la := Nat.ne_of_gt (Nat.lt_trans hlaI (Nat.lt_trans hID hDC))
            have hDla : D ≠ x.la := Nat.ne_of_gt (Nat.lt_trans hlaI hID)
            have hCdx : C ≠ x.dx := Nat.ne_of_gt (Nat.lt_trans hdxI (Nat.lt_trans hID hDC))
            have hDdx : D ≠ x.dx := Nat.ne_of_gt (Nat.lt_trans hdxI hID)
            repeat' ((fail_if_success (with_reducible show wpAny _ _ (callWith _ _ _ _ _) _ _ _)); (first | (k_unfold; (try dsimp only)) | (k_end; wrow_close) | walk1 | (dsimp only; walk1) | (leave1; walk_say "STEP leave1"; try dsimp only) | fail "no step"))
            try refine flat (s1 := s1) fun tkZ20 => ?_
            k_dflt (refine' callWith_K0 ?k1 ?k2 ?_; (case k1 => k_in); (case k2 => k_is); k_whole)
            repeat' ((fail_if_success (with_reducible show wpAny _ _ (call (Value.ref _) _ _) _ _ _)); (first | (k_unfold; (try dsimp only)) | (k_end; wrow_close) | walk1 | (dsimp only; walk1) | (leave1; walk_say "STEP leave1"; try dsimp only) | fail "no step"))
            try refine flat (s1 := s1) fun tkZ21 => ?_
            rename Fr g0 L0 _ _ => F5
            dsimp only
            k_dflt (refine' ctrN_use (get_ok w x.lx x.dx x.ds x.f2 x.f1 x.la x.pb x.q1 x.q2 x.q3 x.q4 c.t1 x.t2 x.tq c.ti c.ne x.n5 c.nl x.np fd2 c.n c.i (S txt) _ ((C, oC) :: (_, oI) :: (D, listOf ys.toArray k) :: (L0 + 1 + 1 + 1 + 1, o9) :: RS) hRd hci (fun q hq => .tail _ (.tail _ (.tail _ (.tail _ (hneed q hq))))) ⟨by omega, oF, oG, oH, oI2⟩
              (List.forall_mem_cons.mpr ⟨hCla, List.forall_mem_cons.mpr ⟨Nat.ne_of_gt hlaI, List.forall_mem_cons.mpr ⟨hDla, hRla⟩⟩⟩) (List.forall_mem_cons.mpr ⟨hCdx, List.forall_mem_cons.mpr ⟨Nat.ne_of_gt hdxI, List.forall_mem_cons.mpr ⟨hDdx, hRdx⟩⟩⟩) fd1 (.tail _ (.tail _ (.tail _ (.tail _ hf1R)))) uj kj cj (by omega) ht2) X' B' F5 (perm3 N4) T' CH rfl ?dp ?un ?_)
            (case dp => decide)
            (case un => decide)
            rintro _ _ h7 tk7 ⟨t7, t1', ti', ne', nl', rfl, rfl⟩ F7 N7
            have key : ∀ tk, StrsAre (ys ++ [.str (S uj) tk]) ((([u1, [e], u2] ++ [[]]).take (j + 1)).map S) := fun tk => by
              rw [List.take_add_one, hu, List.map_append]
              exact hP.1.append' (.cons _ _ .nil)
            have hk1' : c.i + kj = ((wrs [u1, [e], u2] (nums ns)).take (j + 1)).flatten.length := by rw [hP.2.1]; exact hk1.symm
            have hc1' : c.n + (cj : Int) = 1 + ((((wrs [u1, [e], u2] (nums ns)).take (j + 1)).flatten.count 10 : Nat) : Int) := by
              have hc2 : ((wrs [u1, [e], u2] (nums ns)).take (j + 1)).flatten.count 10 = ((wrs [u1, [e], u2] (nums ns)).take j).flatten.count 10 + cj := hc1
              rw [hP.2.2, hc2]; omega
            exact ⟨⟨t1', ti', ne', nl', c.n + cj, c.i + kj⟩, _, _, rfl, ⟨key _, hk1', hc1'⟩, F7, perm3' N7⟩)
          (case fin => as_aux_lemma =>
            intro D C cx ys mC k h tk hID hDC hP hn PL F3 N3 hl
            refine finAssign PL hn F3 N3 hl hDC rfl rfl rfl fun h4 F4 N4 => ?_
            clear F3 N3 Fb Nb hS4 hnb hadr hneed hf1R hRla hRdx
            obtain ⟨hPs, hPi, hPn⟩ := hP
            rw [List.take_of_length_le (show ([u1, [e], u2] ++ [[]] : List (List Nat)).length ≤ 4 from Nat.le_refl _)] at hPs
            rw [List.take_of_length_le (show (wrs [u1, [e], u2] (nums ns)).length ≤ 4 by omega), ← htxt] at hPn
            clear hPi
            subst hRS
            simp only [lexRows, List.cons_append, List.nil_append] at N4
            show wpAny _ _ _ _ _ _
            refine flat (s1 := s1) fun tkF => ?_
            have hm1 : ∀ d ∈ u1, d ∈ [a, b, c] := by rw [hu1]; exact wd_mem
            have hm2 : ∀ d ∈ u2, d ∈ [a, b, c] := by rw [hu2]; exact wd_mem
            have hme : e ∈ [a, b, c] := by rw [he]; exact pick_mem ..
            have hlt : ∀ d ∈ [a, b, c], d < 0x110000 := by
              obtain ⟨_, _, h1, h2, h3⟩ := hls
              exact List.forall_mem_cons.mpr ⟨h1, List.forall_mem_cons.mpr ⟨h2, List.forall_mem_cons.mpr ⟨h3, List.forall_mem_nil _⟩⟩⟩
            repeat' ((fail_if_success (with_reducible show wpAny _ _ (binaryOp _ _ _) _ _ _)); (fail_if_success (with_reducible show wpAny _ _ (compareOp _ _ _) _ _ _)); (first | (k_unfold; (try dsimp only)) | (k_end; wrow_close) | walk1 | (dsimp only; walk1) | (leave1; walk_say "STEP leave1"; try dsimp only) | fail "no step"))
            try refine flat (s1 := s1) fun tkZ22 => ?_
            rename Fr g0 L0 _ _ => Fa
            rename News g0 L0 _ _ => Na
            obtain ⟨cv1, hcv1, Na⟩ := lit1 Na
            refine add_any Fa Na (us := wv) ⟨_, (Na (_, listOf wv.toArray 0) (by k_mem)).1, rfl, 0, rfl⟩ ⟨_, (Na _ (.head _)).1, rfl, 0, rfl⟩ (by rw [hwv.length, hcv1.length]; simp) (fun Dc hc Fc Nc lc => ?_)
            clear Fa Na
            repeat' ((fail_if_success (with_reducible show wpAny _ _ (compareOp _ _ _) _ _ _)); (first | (k_unfold; (try dsimp only)) | (k_end; wrow_close) | walk1 | (dsimp only; walk1) | (leave1; walk_say "STEP leave1"; try dsimp only) | fail "no step"))
            try refine flat (s1 := s1) fun tkZ23 => ?_
            have hyw : StrsAre (wv ++ cv1) (([u1, [e], u2] ++ [[]]).map S) := by
              rw [List.map_append]
              exact hwv.append' (by rw [show List.map S [[]] = [Str.ofString ""] from by rw [emp_eq]; rfl]; exact hcv1)
            have hok4 : SOk (([u1, [e], u2] ++ [[]]).map S) := sok_sub hlt (by
              intro u hu
              simp only [List.cons_append, List.nil_append, List.mem_cons, List.not_mem_nil, or_false] at hu
              rcases hu with rfl | rfl | rfl | rfl
              · exact hm1
              · intro d hd; rw [List.mem_singleton.mp hd]; exact hme
              · exact hm2
              · intro d hd; cases hd)
            refine ne_same Nc (a := D) (b := Dc) (xs := ys) (ka := k) (kb := 0) (by k_mem) (.head _) hPs hyw hok4 (by show callerA.units + 3 + 64 < cLine; decide) ?_
            repeat' ((fail_if_success (with_reducible show wpAny _ _ (call (Value.builtin "str.count") _ _) _ _ _)); (first | (k_unfold; (try dsimp only)) | (k_end; wrow_close) | walk1 | (dsimp only; walk1) | (leave1; walk_say "STEP leave1"; try dsimp only) | fail "no step"))
            try refine flat (s1 := s1) fun tkZ24 => ?_
            refine call_countnl fun t8 k8 => ?_
            repeat' ((fail_if_success (with_reducible show wpAny _ _ (subscriptTail _ _ _ _) _ _ _)); (fail_if_success (with_reducible show wpAny _ _ (exec (Stmt.Return _ _) _) _ _ _)); (first | (k_unfold; (try dsimp only)) | (k_end; wrow_close) | walk1 | (dsimp only; walk1) | (leave1; walk_say "STEP leave1"; try dsimp only) | fail "no step"))
            · rename (cx.n ≠ _) => hb
              exact absurd hPn hb
            obtain ⟨r1, r2, r3, r4, rfl⟩ := strs4 hPs
            clear hPs hyw hok4
            refine flat (s1 := s1) fun tkG => ?_
            rename News g0 L0 _ _ => Nd
            replace Nd := trim23 Nd
            have oA' := oA
            clear lc hn PL hl hPn oA o79 oE oF oG oH oI2 hA2 hr hdxI hRd oc1X oc2X hx1 hcv1 Na
            have hD96 : (96 : Nat) < D := Nat.lt_trans l0.1 (Nat.lt_trans hLb hID)
            have hc96 : 96 < c1 ∧ 96 < c2 := ⟨ltN ord2.2.2.2.2.1.2.2.2.2.2.2.2.1, ltN ord2.2.2.2.2.2.2.2.2.2.2.2.2.1⟩
            have hD5 : L0 + 1 + 1 + 1 + 1 + 1 < D := Nat.lt_trans (Nat.lt_trans (Nat.lt_trans (ltN oA'.2.1) (show x.cw < x.la by omega)) hlaI) hID
            have hc5 : L0 + 1 + 1 + 1 + 1 + 1 < c1 ∧ L0 + 1 + 1 + 1 + 1 + 1 < c2 := ⟨ltN ord2.2.2.2.2.1.2.1, ltN ord2.2.2.2.2.2.2.1⟩
            have hlet : Let3 [a, b, c] := ⟨a, b, c, rfl, hls.1.1, hls.1.2.1, hls.1.2.2, hls.2.1.1, hls.2.1.2.1, hls.2.1.2.2⟩
            repeat' ((fail_if_success (with_reducible show wpAny _ _ (binaryOp _ _ _) _ _ _)); (first | (k_unfold; (try dsimp only)) | (k_end; wrow_close) | walk1 | (dsimp only; walk1) | (leave1; walk_say "STEP leave1"; try dsimp only) | fail "no step"))
            try refine flat (s1 := s1) fun tkZ25 => ?_
            refine add_S (by simp; omega) fun ta ka => ?_
            repeat' ((fail_if_success (with_reducible show wpAny _ _ (call (Value.ref _) _ _) _ _ _)); (first | (k_unfold; (try dsimp only)) | (k_end; wrow_close) | walk1 | (dsimp only; walk1) | (leave1; walk_say "STEP leave1"; try dsimp only) | fail "no step"))
            try refine flat (s1 := s1) fun tkZ26 => ?_
            rename Fr g0 L0 _ _ => Fe
            rename News g0 L0 _ _ => Ne
            k_dflt (refine' ctrN_use (apart_ok w u1 (u1 ++ [e]) [a, b, c] r1 ta t13 _ c1 c2 oc1 oc2 none hok79 ?hlow0 (fun _ _ e => nomatch e) trivial hc96 hlet hlt ?hx ?hy) X' B' Fe Ne T' CH rfl ?dp ?un ?_)
            (case hlow0 => exact List.forall_mem_cons.mpr ⟨hD96, List.forall_mem_cons.mpr ⟨up5 l0.1, List.forall_mem_cons.mpr ⟨up2 l0.1, List.forall_mem_nil _⟩⟩⟩)
            (case hx => show u1.length < 8; omega)
            (case hy => show (u1 ++ [e]).length < 8; simp; omega)
            (case dp => decide)
            (case un => decide)
            rintro _ _ h20 tk20 ⟨D20, k20, vs20, T20, rfl, rfl, hv20, hok20, hlt20⟩ F20 N20
            clear Fe Ne
            replace N20 := ap_back N20
            simp only [tab79, List.cons_append, List.nil_append] at N20
            obtain ⟨heads, hheads⟩ : ∃ l, l = apartGo u1 (u1 ++ [e]) [a, b, c] ((S (u1 ++ [e])).length + 1) [[]] := ⟨_, rfl⟩
            rw [← hheads] at hv20
            show wpAny _ _ _ _ _ _
            refine flat (s1 := s1) fun tkH => ?_
            have hLow : ∀ z : Nat, z = L0 + 1 + 1 → 96 < z := fun z hz => hz ▸ up2 l0.1
            have hLow5 : (96 : Nat) < L0 + 1 + 1 + 1 + 1 + 1 := up5 l0.1
            obtain ⟨hT20, hk20⟩ := okay_next (z := (L0 + 1 + 1 + 1 + 1 + 1, oT)) hok20 (by k_mem) (fun _ _ e => nomatch e) trivial
            have hD20 : L0 + 1 + 1 + 1 + 1 + 1 < D20 := hlt20 (L0 + 1 + 1 + 1 + 1 + 1, oT) (List.mem_append_right _ (List.mem_append_right _ (by k_mem)))
            repeat' ((fail_if_success (with_reducible show wpAny _ _ (binaryOp _ _ _) _ _ _)); (first | (k_unfold; (try dsimp only)) | (k_end; wrow_close) | walk1 | (dsimp only; walk1) | (leave1; walk_say "STEP leave1"; try dsimp only) | fail "no step"))
            try refine flat (s1 := s1) fun tkZ27 => ?_
            refine add_S (by simp; omega) fun tb kb => ?_
            repeat' ((fail_if_success (with_reducible show wpAny _ _ (call (Value.ref _) _ _) _ _ _)); (first | (k_unfold; (try dsimp only)) | (k_end; wrow_close) | walk1 | (dsimp only; walk1) | (leave1; walk_say "STEP leave1"; try dsimp only) | fail "no step"))
            try refine flat (s1 := s1) fun tkZ28 => ?_
            rename Fr g0 L0 _ _ => Fe
            rename News g0 L0 _ _ => Ne
            replace Ne := ap_to (X := some (c1, oc1, c2, oc2)) (T := T20) (l := [_, _, _, _]) Ne
            k_dflt (refine' ctrN_use (apart_ok w u2 ([e] ++ u2) [a, b, c] r3 tb t13 _ c1 c2 oc1 oc2 T20 hok79 ?hlow0 ?ht9 hk20 hc96 hlet hlt ?hx ?hy) X' B' Fe Ne T' CH rfl ?dp ?un ?_)
            (case hlow0 => exact List.forall_mem_cons.mpr ⟨Nat.lt_trans hLow5 hD20, List.forall_mem_cons.mpr ⟨hD96, List.forall_mem_cons.mpr ⟨hLow5, List.forall_mem_cons.mpr ⟨hLow _ rfl, List.forall_mem_nil _⟩⟩⟩⟩)
            (case ht9 => exact fun c o e => Nat.lt_trans hLow5 (hT20 c o e))
            (case hx => show u2.length < 8; omega)
            (case hy => show ([e] ++ u2).length < 8; simp; omega)
            (case dp => decide)
            (case un => decide)
            rintro _ _ h21 tk21 ⟨D21, k21, vs21, T21, rfl, rfl, hv21, hok21, hlt21⟩ F21 N21
            clear Fe Ne
            replace N21 := ap_back N21
            simp only [tab79, List.cons_append, List.nil_append] at N21
            obtain ⟨tails, htails⟩ : ∃ l, l = apartGo u2 ([e] ++ u2) [a, b, c] ((S ([e] ++ u2)).length + 1) [[]] := ⟨_, rfl⟩
            rw [← htails] at hv21
            obtain ⟨hT21, hk21⟩ := okay_next (z := (L0 + 1 + 1 + 1 + 1 + 1, oT)) hok21 (by k_mem) hT20 hk20
            have hD21 : L0 + 1 + 1 + 1 + 1 + 1 < D21 := hlt21 (L0 + 1 + 1 + 1 + 1 + 1, oT) (List.mem_append_right _ (List.mem_append_right _ (by k_mem)))
            show wpAny _ _ _ _ _ _
            repeat' ((fail_if_success (with_reducible show wpAny _ _ (storeName _ _ _) _ _ _)); (first | (k_unfold; (try dsimp only)) | (k_end; wrow_close) | walk1 | (dsimp only; walk1) | (leave1; walk_say "STEP leave1"; try dsimp only) | fail "no step"))
            try refine flat (s1 := s1) fun tkZ29 => ?_
            replace N21 := to_head4 N21
            refine storeX_C F21 N21 (by rfl) (UpdF.head ?hne) dT (fun h22 o22 F22 N22 d22 => ?_)
            (case hne => exact List.forall_mem_cons.mpr ⟨Nat.ne_of_gt hD21, List.forall_mem_cons.mpr ⟨Nat.ne_of_gt hD20, List.forall_mem_cons.mpr ⟨Nat.ne_of_gt hD5, List.forall_mem_cons.mpr ⟨Nat.ne_of_lt (up2 (Nat.lt_succ_self _)), List.forall_mem_cons.mpr ⟨Nat.ne_of_lt (up5 l0.2), List.forall_mem_cons.mpr ⟨Nat.ne_of_gt hc5.1, List.forall_mem_cons.mpr ⟨Nat.ne_of_gt hc5.2, tab96_ne hLow5 hT21⟩⟩⟩⟩⟩⟩⟩)
            clear F21 N21
            refine flat (s1 := s1) fun tkI => ?_
            repeat' ((fail_if_success (with_reducible show wpAny _ _ (binaryOp _ _ _) _ _ _)); (first | (k_unfold; (try dsimp only)) | (k_end; wrow_close) | walk1 | (dsimp only; walk1) | (leave1; walk_say "STEP leave1"; try dsimp only) | fail "no step"))
            try refine flat (s1 := s1) fun tkZ30 => ?_
            refine add_S (by omega) fun tc kc => ?_
            repeat' ((fail_if_success (with_reducible show wpAny _ _ (binaryOp _ _ _) _ _ _)); (first | (k_unfold; (try dsimp only)) | (k_end; wrow_close) | walk1 | (dsimp only; walk1) | (leave1; walk_say "STEP leave1"; try dsimp only) | fail "no step"))
            try refine flat (s1 := s1) fun tkZ31 => ?_
            refine add_S (by simp; omega) fun td kd => ?_
            repeat' ((fail_if_success (with_reducible show wpAny _ _ (binaryOp _ _ _) _ _ _)); (first | (k_unfold; (try dsimp only)) | (k_end; wrow_close) | walk1 | (dsimp only; walk1) | (leave1; walk_say "STEP leave1"; try dsimp only) | fail "no step"))
            try refine flat (s1 := s1) fun tkZ32 => ?_
            refine add_S (by simp; omega) fun te ke => ?_
            repeat' ((fail_if_success (with_reducible show wpAny _ _ (call (Value.ref _) _ _) _ _ _)); (first | (k_unfold; (try dsimp only)) | (k_end; wrow_close) | walk1 | (dsimp only; walk1) | (leave1; walk_say "STEP leave1"; try dsimp only) | fail "no step"))
            try refine flat (s1 := s1) fun tkZ33 => ?_
            rename Fr g0 L0 _ _ => Fe
            rename News g0 L0 _ _ => Ne
            replace Ne := ap_to (X := some (c1, oc1, c2, oc2)) (T := T21) (l := [_, _, _, _, _]) Ne
            k_dflt (refine' ctrN_use (apart_ok w (u1 ++ u2) (u1 ++ [e] ++ u2) [a, b, c] tc te t13 _ c1 c2 oc1 oc2 T21 hok79 ?hlow0 ?ht9 hk21 hc96 hlet hlt ?hx ?hy) X' B' Fe Ne T' CH rfl ?dp ?un ?_)
            (case hlow0 => exact List.forall_mem_cons.mpr ⟨hLow5, List.forall_mem_cons.mpr ⟨Nat.lt_trans hLow5 hD21, List.forall_mem_cons.mpr ⟨Nat.lt_trans hLow5 hD20, List.forall_mem_cons.mpr ⟨hD96, List.forall_mem_cons.mpr ⟨hLow _ rfl, List.forall_mem_nil _⟩⟩⟩⟩⟩)
            (case ht9 => exact fun c o e => Nat.lt_trans hLow5 (hT21 c o e))
            (case hx => show (u1 ++ u2).length < 8; simp; omega)
            (case hy => show (u1 ++ [e] ++ u2).length < 8; simp; omega)
            (case dp => decide)
            (case un => decide)
            rintro _ _ h23 tk23 ⟨D22, k22, vs22, T22, rfl, rfl, hv22, hok22, hlt22⟩ F23 N23
            clear Fe Ne
            replace N23 := ap_back N23
            simp only [tab79, List.cons_append, List.nil_append] at N23
            obtain ⟨whole, hwhole⟩ : ∃ l, l = apartGo (u1 ++ u2) (u1 ++ [e] ++ u2) [a, b, c] ((S (u1 ++ [e] ++ u2)).length + 1) [[]] := ⟨_, rfl⟩
            rw [← hwhole] at hv22
            show wpAny _ _ _ _ _ _
            refine flat (s1 := s1) fun tkJ => ?_
            repeat' ((fail_if_success (with_reducible show wpAny _ _ (call (Value.ref _) _ _) _ _ _)); (first | (k_unfold; (try dsimp only)) | (k_end; wrow_close) | walk1 | (dsimp only; walk1) | (leave1; walk_say "STEP leave1"; try dsimp only) | fail "no step"))
            try refine flat (s1 := s1) fun tkZ34 => ?_
            rename Fr g0 L0 _ _ => Fe
            rename News g0 L0 _ _ => Ne
            k_dflt (refine' ctrN_use (counters_ok w u1 e a b c _ _ _ (by omega) hm1 hme hls.1 _) X' B' Fe Ne T' CH rfl ?dp ?un ?_)
            (case dp => decide)
            (case un => decide)
            rintro _ _ h24 tk24 ⟨rc1, hrc1, rfl, rfl⟩ F24 N24
            clear Fe Ne
            show wpAny _ _ _ _ _ _
            refine flat (s1 := s1) fun tkK => ?_
            repeat' ((fail_if_success (with_reducible show wpAny _ _ (subscriptTail _ _ _ _) _ _ _)); (first | (k_unfold; (try dsimp only)) | (k_end; wrow_close) | walk1 | (dsimp only; walk1) | (leave1; walk_say "STEP leave1"; try dsimp only) | fail "no step"))
            rename Fr g0 L0 _ _ => Fe
            rename News g0 L0 _ _ => Ne
            refine slice_rev Fe Ne hu2l (fun h25 t25 k25 F25 N25 => ?_) (by with_unfolding_all rfl) (fun _ => rfl)
            clear Fe Ne
            repeat' ((fail_if_success (with_reducible show wpAny _ _ (call (Value.ref _) _ _) _ _ _)); (first | (k_unfold; (try dsimp only)) | (k_end; wrow_close) | walk1 | (dsimp only; walk1) | (leave1; walk_say "STEP leave1"; try dsimp only) | fail "no step"))
            try refine flat (s1 := s1) fun tkZ35 => ?_
            rename Fr g0 L0 _ _ => Fe
            rename News g0 L0 _ _ => Ne
            k_dflt (refine' ctrN_use (counters_ok w u2.reverse e a b c _ _ _ (by rw [List.length_reverse]; omega) (fun d hd => hm2 d (List.mem_reverse.mp hd)) hme hls.1 _) X' B' Fe Ne T' CH rfl ?dp ?un ?_)
            (case dp => decide)
            (case un => decide)
            rintro _ _ h26 tk26 ⟨rc2, hrc2, rfl, rfl⟩ F26 N26
            clear Fe Ne
            show wpAny _ _ _ _ _ _
            refine flat (s1 := s1) fun tkL => ?_
            have hHb : heads.length ≤ 243 := by
              have h1 := apart_len (x := u1) (y := u1 ++ [e]) (ls := [a, b, c]) (Nat.le_refl 3) ((S (u1 ++ [e])).length + 1) [[]]
              have h2 : 3 ^ ((S (u1 ++ [e])).length + 1) ≤ 3 ^ 5 := Nat.pow_le_pow_right (by decide) (by show (u1 ++ [e]).length + 1 ≤ 5; simp; omega)
              rw [← hheads] at h1
              simp only [List.length_cons, List.length_nil] at h1
              omega
            have hTb : tails.length ≤ 243 := by
              have h1 := apart_len (x := u2) (y := [e] ++ u2) (ls := [a, b, c]) (Nat.le_refl 3) ((S ([e] ++ u2)).length + 1) [[]]
              have h2 : 3 ^ ((S ([e] ++ u2)).length + 1) ≤ 3 ^ 5 := Nat.pow_le_pow_right (by decide) (by show ([e] ++ u2).length + 1 ≤ 5; simp; omega)
              rw [← htails] at h1
              simp only [List.length_cons, List.length_nil] at h1
              omega
            have hHw : ∀ u ∈ heads, u.length ≤ 9 ∧ ∀ d ∈ u, d ∈ [a, b, c] := fun u hu => by
              have h1 := apart_wd ((S (u1 ++ [e])).length + 1) 0 [[]] nil_wd u (by rw [← hheads]; exact hu)
              have h2 : (S (u1 ++ [e])).length + 1 ≤ 9 := by show (u1 ++ [e]).length + 1 ≤ 9; simp; omega
              exact ⟨by omega, h1.2⟩
            have hTw : ∀ u ∈ tails, u.length ≤ 9 ∧ ∀ d ∈ u, d ∈ [a, b, c] := fun u hu => by
              have h1 := apart_wd ((S ([e] ++ u2)).length + 1) 0 [[]] nil_wd u (by rw [← htails]; exact hu)
              have h2 : (S ([e] ++ u2)).length + 1 ≤ 9 := by show ([e] ++ u2).length + 1 ≤ 9; simp; omega
              exact ⟨by omega, h1.2⟩
            have hWw : ∀ u ∈ whole, ∀ d ∈ u, d ∈ [a, b, c] := fun u hu => (apart_wd ((S (u1 ++ [e] ++ u2)).length + 1) 0 [[]] nil_wd u (by rw [← hwhole]; exact hu)).2
            obtain ⟨ih, jt, hC1, hLh, hC2, hLt, hW1, hW2⟩ := law_pure (ls := [a, b, c]) (by obtain ⟨⟨x1, x2, x3⟩, _⟩ := hls; simp [x1, x2, x3]) hm1 hm2 hme hheads htails hwhole
            rw [← hrc1] at hC1
            rw [← hrc2] at hC2
            repeat' ((fail_if_success (with_reducible show wpAny _ _ (eval (Expr.ListComp _ _ _ _) _) _ _ _)); (first | (k_unfold; (try dsimp only)) | (k_end; wrow_close) | walk1 | (dsimp only; walk1) | (leave1; walk_say "STEP leave1"; try dsimp only) | fail "no step"))
            try refine flat (s1 := s1) fun tkZ36 => ?_
            rename Fr g0 L0 _ _ => Fe
            rename News g0 L0 _ _ => Ne
            replace Ne := base4 Ne (a := (D20, listOf vs20.toArray k20)) (b := (D21, listOf vs21.toArray k21)) (c := (L0 + 1 + 1 + 1 + 1 + 1, o22)) (d := (D22, listOf vs22.toArray k22)) (by k_mem) (by k_mem) (by k_mem) (by k_mem)
            obtain ⟨RS, hRS, Ne⟩ := split4 Ne
            refine flat (s1 := s1) fun tkM => ?_
            refine evalLC (by rfl) (by rfl) (by decide) (fun _ => rfl) ?_
            repeat' ((fail_if_success (with_reducible show wpAny _ _ (pyIter _) _ _ _)); (first | (k_unfold; (try dsimp only)) | (k_end; wrow_close) | walk1 | (dsimp only; walk1) | (leave1; walk_say "STEP leave1"; try dsimp only) | fail "no step"))
            try refine flat (s1 := s1) fun tkZ37 => ?_
            have hLe := Fe.ns.lt
            have hne := news_lt Ne
            refine src_listN Ne (by rfl) fun o5 hS5 => ?_
            refine lcOne _ (P := fun i _ zs => IntsAre zs ((heads.take i).map fun u => ((u.length : Nat) : Int))) () hS5 (by decide) rfl rfl (Fe.push _) (newsPush Ne _) (fun _ => hne) hLe (by rw [Heap.size_push]; exact Nat.lt_succ_self _) IntsAre.nil ?hlen ?turn ?fin
            (case hlen =>
              intro j _ ys hy
              rw [sizeLine_eq, hy.length, List.length_map, List.length_take]
              omega)
            (case turn =>
              intro D3 C3 i _ v zs oI oC mC k5 h tk hID3 hDC3 hv hi hP5 hm hd F3 N3
              clear Fe Ne hS5
              dsimp only at N3
              obtain ⟨u5, t5, rfl, hu5⟩ := strs_get hv20 hv
              have key := fun t => ints_step hP5 hu5 t
              have hu5l : u5.length ≤ 9 := (hHw u5 (List.mem_of_getElem? hu5)).1
              repeat' ((fail_if_success (with_reducible show wpAny _ _ (call (Value.builtin "len") _ _) _ _ _)); (first | (k_unfold; (try dsimp only)) | (k_end; wrow_close) | walk1 | (dsimp only; walk1) | (leave1; walk_say "STEP leave1"; try dsimp only) | fail "no step"))
              try refine flat (s1 := s1) fun tkZ38 => ?_
              rename Fr g0 L0 _ _ => F5
              rename News g0 L0 _ _ => N5
              refine len_S (by omega) ?_
              exact ⟨(), _, _, rfl, key _, F5, N5⟩)
            (case fin => as_aux_lemma =>
              intro D3 C3 _ zs mC k5 h tk hID3 hDC3 hP5 hn PL F3 N3 hl
              refine finNone PL hn F3 N3 hl hDC3 fun h4 F4 N4 => ?_
              clear F3 N3 Fe Ne hS5 hne hl hn PL
              repeat' ((fail_if_success (with_reducible show wpAny _ _ (binaryOp _ _ _) _ _ _)); (first | (k_unfold; (try dsimp only)) | (k_end; wrow_close) | walk1 | (dsimp only; walk1) | (leave1; walk_say "STEP leave1"; try dsimp only) | fail "no step"))
              try refine flat (s1 := s1) fun tkZ39 => ?_
              rename Fr g0 L0 _ _ => Fa
              rename News g0 L0 _ _ => Na
              refine mul_one (n := heads.length) (by rw [hC1]) Fa Na (by omega) (fun E5 h5 ws5 hws5 F5 N5 => ?_)
              clear Fa Na
              repeat' ((fail_if_success (with_reducible show wpAny _ _ (compareOp _ _ _) _ _ _)); (first | (k_unfold; (try dsimp only)) | (k_end; wrow_close) | walk1 | (dsimp only; walk1) | (leave1; walk_say "STEP leave1"; try dsimp only) | fail "no step"))
              try refine flat (s1 := s1) fun tkZ40 => ?_
              refine ne_ints_same N5 (a := D3) (b := E5) (xs := zs) (ka := k5) (kb := 0) (by k_mem) (.head _) hP5 hws5 (ints_all (x := 0) hv20 hP5 hLh hC1) (by show callerA.units + 3 + 64 < cLine; decide) ?_
              clear hP5 hws5
              replace N5 : News g0 L0 h5 (_ :: _ :: _ :: _ :: RS) := fun q hq => N5 q (.tail _ (.tail _ (.tail _ hq)))
              refine flat (s1 := s1) fun tkN => ?_
              repeat' ((fail_if_success (with_reducible show wpAny _ _ (eval (Expr.ListComp _ _ _ _) _) _ _ _)); (first | (k_unfold; (try dsimp only)) | (k_end; wrow_close) | walk1 | (dsimp only; walk1) | (leave1; walk_say "STEP leave1"; try dsimp only) | fail "no step"))
              try refine flat (s1 := s1) fun tkZ41 => ?_
              have Fe := F5
              have Ne := news_cons (N5 (D21, listOf vs21.toArray k21) (by k_mem)) N5
              clear F5 N5
              refine evalLC (by rfl) (by rfl) (by decide) (fun _ => rfl) ?_
              repeat' ((fail_if_success (with_reducible show wpAny _ _ (pyIter _) _ _ _)); (first | (k_unfold; (try dsimp only)) | (k_end; wrow_close) | walk1 | (dsimp only; walk1) | (leave1; walk_say "STEP leave1"; try dsimp only) | fail "no step"))
              try refine flat (s1 := s1) fun tkZ42 => ?_
              have hLe := Fe.ns.lt
              have hne := news_lt Ne
              refine src_listN Ne (by rfl) fun o5 hS5 => ?_
              refine lcOne _ (P := fun i _ zs => IntsAre zs ((tails.take i).map fun u => ((u.length : Nat) : Int))) () hS5 (by decide) rfl rfl (Fe.push _) (newsPush Ne _) (fun _ => hne) hLe (by rw [Heap.size_push]; exact Nat.lt_succ_self _) IntsAre.nil ?hlen ?turn ?fin
              (case hlen =>
                intro j _ ys hy
                rw [sizeLine_eq, hy.length, List.length_map, List.length_take]
                omega)
              (case turn =>
                intro D4 C4 i _ v zs oI oC mC k6 h tk hID4 hDC4 hv hi hP6 hm hd F3 N3
                clear Fe Ne hS5
                dsimp only at N3
                obtain ⟨u6, t6, rfl, hu6⟩ := strs_get hv21 hv
                have key := fun t => ints_step hP6 hu6 t
                have hu6l : u6.length ≤ 9 := (hTw u6 (List.mem_of_getElem? hu6)).1
                repeat' ((fail_if_success (with_reducible show wpAny _ _ (call (Value.builtin "len") _ _) _ _ _)); (first | (k_unfold; (try dsimp only)) | (k_end; wrow_close) | walk1 | (dsimp only; walk1) | (leave1; walk_say "STEP leave1"; try dsimp only) | fail "no step"))
                try refine flat (s1 := s1) fun tkZ43 => ?_
                rename Fr g0 L0 _ _ => F5
                rename News g0 L0 _ _ => N5
                refine len_S (by omega) ?_
                exact ⟨(), _, _, rfl, key _, F5, N5⟩)
              (case fin => as_aux_lemma =>
                intro D4 C4 _ zs4 mC k6 h tk hID4 hDC4 hP6 hn PL F3 N3 hl
                refine finNone PL hn F3 N3 hl hDC4 fun h4 F4 N4 => ?_
                clear F3 N3 Fe Ne hS5 hne hl hn PL
                repeat' ((fail_if_success (with_reducible show wpAny _ _ (binaryOp _ _ _) _ _ _)); (first | (k_unfold; (try dsimp only)) | (k_end; wrow_close) | walk1 | (dsimp only; walk1) | (leave1; walk_say "STEP leave1"; try dsimp only) | fail "no step"))
                try refine flat (s1 := s1) fun tkZ44 => ?_
                rename Fr g0 L0 _ _ => Fa
                rename News g0 L0 _ _ => Na
                refine mul_one (n := tails.length) (by rw [hC2]) Fa Na (by omega) (fun E6 h6 ws6 hws6 F6 N6 => ?_)
                clear Fa Na
                repeat' ((fail_if_success (with_reducible show wpAny _ _ (compareOp _ _ _) _ _ _)); (first | (k_unfold; (try dsimp only)) | (k_end; wrow_close) | walk1 | (dsimp only; walk1) | (leave1; walk_say "STEP leave1"; try dsimp only) | fail "no step"))
                try refine flat (s1 := s1) fun tkZ45 => ?_
                refine ne_ints_same N6 (a := D4) (b := E6) (xs := zs4) (ka := k6) (kb := 0) (by k_mem) (.head _) hP6 hws6 (ints_all (x := 0) hv21 hP6 hLt hC2) (by show callerA.units + 3 + 64 < cLine; decide) ?_
                clear hP6 hws6
                replace N6 : News g0 L0 h6 (_ :: _ :: _ :: _ :: RS) := fun q hq => N6 q (.tail _ (.tail _ (.tail _ (.tail _ hq))))
                refine flat (s1 := s1) fun tkO => ?_
                repeat' ((fail_if_success (with_reducible show wpAny _ _ (eval (Expr.ListComp _ _ _ _) _) _ _ _)); (first | (k_unfold; (try dsimp only)) | (k_end; wrow_close) | walk1 | (dsimp only; walk1) | (leave1; walk_say "STEP leave1"; try dsimp only) | fail "no step"))
                try refine flat (s1 := s1) fun tkZ46 => ?_
                have Fe := F6
                have Ne := N6
                clear F6 N6
                refine evalLC (by rfl) (by rfl) (by decide) (fun _ => rfl) ?_
                repeat' ((fail_if_success (with_reducible show wpAny _ _ (pyIter _) _ _ _)); (first | (k_unfold; (try dsimp only)) | (k_end; wrow_close) | walk1 | (dsimp only; walk1) | (leave1; walk_say "STEP leave1"; try dsimp only) | fail "no step"))
                try refine flat (s1 := s1) fun tkZ47 => ?_
                have hLe := Fe.ns.lt
                have hne := news_lt Ne
                refine src_listN Ne (by rfl) fun o7 hS7 => ?_
                refine lcTwo _ (P := fun i _ ys => StrsAre ys (((heads.take i).flatMap fun h => tails.map fun t => h ++ t.drop 1).map S)) () hS7 (by decide) rfl rfl (Fe.push _) (newsPush Ne _) (fun _ => hne) hLe (by rw [Heap.size_push]; exact Nat.lt_succ_self _) StrsAre.nil (fun _ _ => rfl) ?gtwo ?fin
                (case gtwo =>
                  intro D5 C5 i _ v ys oI oC mC k7 h tk hID5 hDC5 PL hoff hv hi hP7 hm hd F9 N9 hCs
                  clear Ne hS7
                  dsimp only at N9 hoff hID5
                  obtain ⟨u7, t7, rfl, hu7⟩ := strs_get hv20 hv
                  have hu7l : u7.length ≤ 9 := (hHw u7 (List.mem_of_getElem? hu7)).1
                  refine nmCellB N9 (by rfl) (by k_mem) d22 ?_ (by rfl) (by rfl)
                  refine innerList (l := D21) (vs := vs21) (LB := _ :: _ :: _ :: _ :: RS) (fun mC => mC (Str.ofString "head") = some (Value.str (S u7) t7)) (fun j zs => StrsAre zs ((((heads.take i).flatMap fun h => tails.map fun t => h ++ t.drop 1).map S) ++ ((tails.take j).map fun t => u7 ++ t.drop 1).map S)) (by rfl) hLe F9 N9 (by k_mem) PL (hoff ()) hd hm rfl rfl rfl ?hG (fun j zs hz => pair_size (f := fun h t => h ++ t.drop 1) hHb hTb hz) (pair_zero (f := fun h t => h ++ t.drop 1) hP7) ?turn ?done
                  (case hG => intro mC v hg; dsimp only; rw [if_neg (by decide)]; exact hg)
                  (case turn =>
                    intro I2 j v zs oI2 oC mC k h tk hv8 hP8 hm8 hg8 hd8 F8 N8
                    clear Fe F9 N9
                    obtain ⟨u8, t8', rfl, hu8⟩ := strs_get hv21 hv8
                    have hu8l : u8.length ≤ 9 := (hTw u8 (List.mem_of_getElem? hu8)).1
                    have key := fun t => tail_step (g := fun t => u7 ++ t.drop 1) hP8 hu8 t
                    repeat' ((fail_if_success (with_reducible show wpAny _ _ (subscriptTail _ _ _ _) _ _ _)); (first | (k_unfold; (try dsimp only)) | (k_end; wrow_close) | walk1 | (dsimp only; walk1) | (leave1; walk_say "STEP leave1"; try dsimp only) | fail "no step"))
                    rename Fr g0 L0 _ _ => Fa
                    rename News g0 L0 _ _ => Na
                    refine cut_from Fa Na hu8l (fun hA tA kA FA NA => ?_) (by with_unfolding_all rfl) (fun _ => rfl)
                    clear Fa Na
                    repeat' ((fail_if_success (with_reducible show wpAny _ _ (binaryOp _ _ _) _ _ _)); (first | (k_unfold; (try dsimp only)) | (k_end; wrow_close) | walk1 | (dsimp only; walk1) | (leave1; walk_say "STEP leave1"; try dsimp only) | fail "no step"))
                    try refine flat (s1 := s1) fun tkZ48 => ?_
                    refine add_S (by rw [List.length_drop]; omega) fun tB kB => ?_
                    exact ⟨(), _, _, rfl, key _, FA, NA⟩)
                  (case done =>
                    intro zs oC mC h tk hP8 hd8 hB8
                    exact ⟨rfl, (), zs, oC, mC, h, tk, rfl, pair_done hv21 hu7 hP8, ⟨hd8, trivial⟩, hB8⟩))
                (case fin => as_aux_lemma =>
                  intro D5 C5 _ zs5 mC k7 h tk hID5 hDC5 hP7 hn PL F3 N3 hl
                  refine finNone PL hn F3 N3 hl hDC5 fun h4 F4 N4 => ?_
                  clear F3 N3 Fe Ne hS7 hne hl hn PL
                  repeat' ((fail_if_success (with_reducible show wpAny _ _ (compareOp _ _ _) _ _ _)); (first | (k_unfold; (try dsimp only)) | (k_end; wrow_close) | walk1 | (dsimp only; walk1) | (leave1; walk_say "STEP leave1"; try dsimp only) | fail "no step"))
                  try refine flat (s1 := s1) fun tkZ49 => ?_
                  rw [hv20.length, List.length_map, List.take_length, ← hW1] at hP7
                  refine ne_same N4 (a := D22) (b := D5) (by k_mem) (.head _) hv22 hP7 (sok_sub hlt hWw) (by show callerA.units + 3 + 64 < cLine; decide) ?_
                  clear hP7
                  replace N4 : News g0 L0 h4 (_ :: _ :: _ :: _ :: RS) := fun q hq => N4 q (.tail _ hq)
                  refine flat (s1 := s1) fun tkP => ?_
                  repeat' ((fail_if_success (with_reducible show wpAny _ _ (eval (Expr.ListComp _ _ _ _) _) _ _ _)); (first | (k_unfold; (try dsimp only)) | (k_end; wrow_close) | walk1 | (dsimp only; walk1) | (leave1; walk_say "STEP leave1"; try dsimp only) | fail "no step"))
                  try refine flat (s1 := s1) fun tkZ50 => ?_
                  have Fe := F4
                  have Ne := N4
                  clear F4 N4
                  refine evalLC (by rfl) (by rfl) (by decide) (fun _ => rfl) ?_
                  repeat' ((fail_if_success (with_reducible show wpAny _ _ (pyIter _) _ _ _)); (first | (k_unfold; (try dsimp only)) | (k_end; wrow_close) | walk1 | (dsimp only; walk1) | (leave1; walk_say "STEP leave1"; try dsimp only) | fail "no step"))
                  try refine flat (s1 := s1) fun tkZ51 => ?_
                  have hLe := Fe.ns.lt
                  have hne := news_lt Ne
                  refine src_listN Ne (by rfl) fun o7 hS7 => ?_
                  refine lcTwo _ (P := fun i _ ys => StrsAre ys (((heads.take i).flatMap fun h => tails.map fun t => h.dropLast ++ t).map S)) () hS7 (by decide) rfl rfl (Fe.push _) (newsPush Ne _) (fun _ => hne) hLe (by rw [Heap.size_push]; exact Nat.lt_succ_self _) StrsAre.nil (fun _ _ => rfl) ?gtwo ?fin
                  (case gtwo =>
                    intro D5 C5 i _ v ys oI oC mC k7 h tk hID5 hDC5 PL hoff hv hi hP7 hm hd F9 N9 hCs
                    clear Ne hS7
                    dsimp only at N9 hoff hID5
                    obtain ⟨u7, t7, rfl, hu7⟩ := strs_get hv20 hv
                    have hu7l : u7.length ≤ 9 := (hHw u7 (List.mem_of_getElem? hu7)).1
                    refine nmCellB N9 (by rfl) (by k_mem) d22 ?_ (by rfl) (by rfl)
                    refine innerList (l := D21) (vs := vs21) (LB := _ :: _ :: _ :: _ :: RS) (fun mC => mC (Str.ofString "head") = some (Value.str (S u7) t7)) (fun j zs => StrsAre zs ((((heads.take i).flatMap fun h => tails.map fun t => h.dropLast ++ t).map S) ++ ((tails.take j).map fun t => u7.dropLast ++ t).map S)) (by rfl) hLe F9 N9 (by k_mem) PL (hoff ()) hd hm rfl rfl rfl ?hG (fun j zs hz => pair_size (f := fun h t => h.dropLast ++ t) hHb hTb hz) (pair_zero (f := fun h t => h.dropLast ++ t) hP7) ?turn ?done
                    (case hG => intro mC v hg; dsimp only; rw [if_neg (by decide)]; exact hg)
                    (case turn =>
                      intro I2 j v zs oI2 oC mC k h tk hv8 hP8 hm8 hg8 hd8 F8 N8
                      clear Fe F9 N9
                      obtain ⟨u8, t8', rfl, hu8⟩ := strs_get hv21 hv8
                      have hu8l : u8.length ≤ 9 := (hTw u8 (List.mem_of_getElem? hu8)).1
                      have key := fun t => tail_step (g := fun t => u7.dropLast ++ t) hP8 hu8 t
                      repeat' ((fail_if_success (with_reducible show wpAny _ _ (subscriptTail _ _ _ _) _ _ _)); (first | (k_unfold; (try dsimp only)) | (k_end; wrow_close) | walk1 | (dsimp only; walk1) | (leave1; walk_say "STEP leave1"; try dsimp only) | fail "no step"))
                      rename Fr g0 L0 _ _ => Fa
                      rename News g0 L0 _ _ => Na
                      refine cut_to Fa Na hu7l (fun hA tA kA FA NA => ?_) (by with_unfolding_all rfl) (fun _ => rfl)
                      clear Fa Na
                      repeat' ((fail_if_success (with_reducible show wpAny _ _ (binaryOp _ _ _) _ _ _)); (first | (k_unfold; (try dsimp only)) | (k_end; wrow_close) | walk1 | (dsimp only; walk1) | (leave1; walk_say "STEP leave1"; try dsimp only) | fail "no step"))
                      try refine flat (s1 := s1) fun tkZ52 => ?_
                      rename Fr g0 L0 _ _ => FA
                      rename News g0 L0 _ _ => NA
                      refine add_S (by rw [List.length_dropLast]; omega) fun tB kB => ?_
                      exact ⟨(), _, _, rfl, key _, FA, NA⟩)
                    (case done =>
                      intro zs oC mC h tk hP8 hd8 hB8
                      exact ⟨rfl, (), zs, oC, mC, h, tk, rfl, pair_done hv21 hu7 hP8, ⟨hd8, trivial⟩, hB8⟩))
                  (case fin => as_aux_lemma =>
                    intro D5 C5 _ zs5 mC k7 h tk hID5 hDC5 hP7 hn PL F3 N3 hl
                    refine finNone PL hn F3 N3 hl hDC5 fun h4 F4 N4 => ?_
                    clear F3 N3 Fe Ne hS7 hne hl hn PL
                    repeat' ((fail_if_success (with_reducible show wpAny _ _ (compareOp _ _ _) _ _ _)); (first | (k_unfold; (try dsimp only)) | (k_end; wrow_close) | walk1 | (dsimp only; walk1) | (leave1; walk_say "STEP leave1"; try dsimp only) | fail "no step"))
                    try refine flat (s1 := s1) fun tkZ53 => ?_
                    rw [hv20.length, List.length_map, List.take_length, ← hW2] at hP7
                    refine eq_same N4 (a := D22) (b := D5) (by k_mem) (.head _) hv22 hP7 (sok_sub hlt hWw) (by show callerA.units + 3 + 64 < cLine; decide) ?_
                    clear hP7
                    have N5 : News g0 L0 h4 RS := fun q hq => N4 q (.tail _ (.tail _ (.tail _ (.tail _ (.tail _ hq)))))
                    have g79 : GrownAt 79 h4 := .of N5 (by rw [hRS]; k_mem)
                    have g96 : GrownAt 96 h4 := tab96_grown (T := T22) N5 (by rw [hRS]; intro q hq; repeat (first | exact hq | refine List.Mem.tail _ ?_))
                    exact ⟨rfl, ⟨_, F4⟩, rfl, rfl, g96, g79⟩)))))))))
end
end
end Mine
theorem PySem.Challenge.cw_pe0106_01_holds : PySem.Challenge.rw_pe0106_01.Holds :=
  Mine.law_t
