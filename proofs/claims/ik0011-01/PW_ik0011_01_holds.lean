import PyProof.Rows.All
import Wide.All
import OpenK.AllK
import Wide.FinOn
import PySem.Challenge.RW_ik0011_01
open PySem PySem.W PyProof.Rows
set_option Elab.async false
namespace Mine
set_option maxRecDepth 100000 in
set_option maxHeartbeats 8000000 in
open_top hd for PySem.Challenge.rw_ik0011_01
end Mine
namespace Mine
/-- a call's contract; `d`, `u`: the room that it wants -/
def Ct (d u : Nat) (w : World) (f : Addr) (vs : List Value) (news : List (Addr × Obj)) (Post : Nat → Nat → Value → List (Addr × Obj) → Prop) : Prop :=
  ∀ (mean : ExcName → Option Value) (mg mb : Str → Option Value) (dp un : Nat) (gd : Option (List Code)) (cn : Str) (cs : Scope) (a : Addr) (ccd : Value) (cl : List (Str × Addr)) (outer : List Env) (A₀ : Around) (base h₀ : Heap) (L : Addr) (m : Str → Option Value) (s : Shared) (Q E : Value → Shared → Prop),
    Below A₀ base outer h₀ → Fr h₀ L s.heap m → (hd.heap_39 w.params).In h₀ → News h₀ L s.heap news → Top hd.view_39 (looseW hd.view_39 [Str.ofString "unescape"]) mean mg mb h₀ → cs.kind = .function → dp + d < recursionLimit → un + u < cLine →
    (∀ r tl h' tk', Fr h₀ L h' m → News h₀ L h' (tl ++ news) → (∀ p ∈ tl, ∀ q ∈ news, q.1 < p.1) → Post s.toks tk' r tl → Q r { s with heap := h', toks := tk' }) →
    wpAny (model PySem.Challenge.rw_ik0011_01.row.prog w) (ktrTop dp un gd cn cs L a ccd cl outer) (call (.ref f) vs) Q E s
theorem ct_use {d u : Nat} {w : World} {f : Addr} {vs : List Value} {news : List (Addr × Obj)} {Post : Nat → Nat → Value → List (Addr × Obj) → Prop}
    {mean : ExcName → Option Value} {mg mb : Str → Option Value} {dp un : Nat} {gd : Option (List Code)} {cn : Str} {cs : Scope} {a : Addr} {ccd : Value} {cl : List (Str × Addr)} {outer : List Env} {A₀ : Around} {base h₀ : Heap} {L : Addr} {m : Str → Option Value} {s : Shared} {Q E : Value → Shared → Prop}
    (B : Below A₀ base outer h₀) (F : Fr h₀ L s.heap m) (X : (hd.heap_39 w.params).In h₀) (N : News h₀ L s.heap news) (T : Top hd.view_39 (looseW hd.view_39 [Str.ofString "unescape"]) mean mg mb h₀) (hk : cs.kind = .function)
    (C : Ct d u w f vs news Post) (hd' : dp + d < recursionLimit) (hu : un + u < cLine)
    (ret : ∀ r tl h' tk', s.toks ≤ tk' → Fr h₀ L h' m → News h₀ L h' (tl ++ news) → (∀ p ∈ tl, ∀ q ∈ news, q.1 < p.1) → Post s.toks tk' r tl → Q r { s with heap := h', toks := tk' }) :
    wpAny (model PySem.Challenge.rw_ik0011_01.row.prog w) (ktrTop dp un gd cn cs L a ccd cl outer) (call (.ref f) vs) Q E s :=
  wpAny_with_toks (Nat.le_refl _) (C _ _ _ _ _ _ _ _ _ _ _ _ _ _ _ _ _ _ _ _ B F X N T hk hd' hu fun r tl h' tk' F' N' hl ho htk => ret r tl h' tk' htk F' N' hl ho)
/-- the letters of a number, the highest figure first -/
def ap (n : Nat) : List Int := if n = 0 then [] else ap (n / 16) ++ [((65 + n % 16 : Nat) : Int)]
termination_by n
decreasing_by omega
theorem ap_zero : ap 0 = [] := by rw [ap]; simp
theorem ap_pos {n : Nat} (h : n ≠ 0) : ap n = ap (n / 16) ++ [((65 + n % 16 : Nat) : Int)] := by rw [ap]; simp [h]
theorem ap_len : ∀ (k n : Nat), n < 16 ^ k → (ap n).length ≤ k
  | 0, n, h => by
    have : n = 0 := by simpa using h
    rw [this, ap_zero]; exact Nat.le_refl _
  | k + 1, n, h => by
    by_cases h0 : n = 0
    · rw [h0, ap_zero]; exact Nat.zero_le _
    · rw [ap_pos h0, List.length_append]
      have h2 : n < 16 ^ k * 16 := by rw [← Nat.pow_succ]; exact h
      have := ap_len k (n / 16) (by omega)
      simpa using this
theorem ap_turn {num n₀ : Int} {v : List Int} (h : ap num.toNat ++ v = ap n₀.toNat) (h0 : 0 ≤ num) (h1 : num ≠ 0) :
    ap (num.fdiv 16).toNat ++ ([65 + num.fmod 16] ++ v) = ap n₀.toNat := by
  have e1 : (num.fdiv 16).toNat = num.toNat / 16 := by
    rw [Int.fdiv_eq_ediv_of_nonneg _ (by decide)]; omega
  have e2 : num.fmod 16 = ((num.toNat % 16 : Nat) : Int) := by
    rw [Int.fmod_eq_emod_of_nonneg _ (by decide)]; omega
  rw [← h, ap_pos (n := num.toNat) (by omega), e1, e2, List.append_assoc]
  simp
theorem ap_cut {m : Int} (h0 : 0 ≤ m) (h1 : m < 16) : KBw.bInts (KBy.picked #[65, 66, 67, 68, 69, 70, 71, 72, 73, 74, 75, 76, 77, 78, 79, 80] (some m) (some (m + 1))) = [65 + m] := by
  rw [KBc.ints_picked (ks := [65, 66, 67, 68, 69, 70, 71, 72, 73, 74, 75, 76, 77, 78, 79, 80]) rfl]
  have h : m = 0 ∨ m = 1 ∨ m = 2 ∨ m = 3 ∨ m = 4 ∨ m = 5 ∨ m = 6 ∨ m = 7 ∨ m = 8 ∨ m = 9 ∨ m = 10 ∨ m = 11 ∨ m = 12 ∨ m = 13 ∨ m = 14 ∨ m = 15 := by omega
  rcases h with rfl | rfl | rfl | rfl | rfl | rfl | rfl | rfl | rfl | rfl | rfl | rfl | rfl | rfl | rfl | rfl <;> rfl
theorem i2a_turn {num n : Int} {v r : Array UInt8} (ha : 0 < n) (hb : n < 16 ^ 20) (h0 : 0 ≤ num) (h1 : num ≤ if n < 0 then -n else n) (_h2 : (KBw.bInts v).length ≤ 20) (h3 : ap num.toNat ++ KBw.bInts v = ap (if n < 0 then -n else n).toNat) (h4 : num ≠ 0) (h5 : KBw.bInts r = [65 + num.fmod 16] ++ KBw.bInts v) :
    0 ≤ num.fdiv 16 ∧ (num.fdiv 16 ≤ if n < 0 then -n else n) ∧ (KBw.bInts r).length ≤ 20 ∧ ap (num.fdiv 16).toNat ++ KBw.bInts r = ap (if n < 0 then -n else n).toNat := by
  have h6 := ap_turn h3 h0 h4
  rw [← h5] at h6
  have hn : (if n < 0 then -n else n) = n := by rw [if_neg (by omega)]
  rw [hn] at h1 h6 ⊢
  have e1 : num.fdiv 16 = num / 16 := Int.fdiv_eq_ediv_of_nonneg _ (by decide)
  refine ⟨by rw [e1]; omega, by rw [e1]; omega, ?_, h6⟩
  have h7 := ap_len 20 n.toNat (by omega)
  rw [← h6, List.length_append] at h7
  omega
theorem i2a_less {num : Int} (h0 : 0 ≤ num) (h1 : num ≠ 0) : (num.fdiv 16).toNat < num.toNat := by
  have e1 : num.fdiv 16 = num / 16 := Int.fdiv_eq_ediv_of_nonneg _ (by decide)
  rw [e1]; omega
theorem i2a_end {num n : Int} {v : Array UInt8} (ha : 0 < n) (h3 : ap num.toNat ++ KBw.bInts v = ap (if n < 0 then -n else n).toNat) (h4 : num = 0) : KBw.bInts v = ap n.toNat := by
  rw [if_neg (by omega), h4] at h3
  rw [← h3]
  show _ = ap 0 ++ _
  rw [ap_zero, List.nil_append]
theorem i2a_start {x : Int} (h0 : 0 ≤ x) : 0 ≤ x ∧ x ≤ x ∧ (KBw.bInts #[]).length ≤ 20 ∧ ap x.toNat ++ KBw.bInts #[] = ap x.toNat :=
  ⟨h0, Int.le_refl _, Nat.zero_le _, List.append_nil _⟩
set_option maxRecDepth 100000 in
set_option maxHeartbeats 8000000 in
theorem int2ap_c (w : World) (news : List (Addr × Obj)) (n : Int) (t : Tok) (h0 : 0 < n) (h1 : n < 16 ^ 20) :
    Ct 8 64 w 37 [.int n t] news (fun _ _ r tl => tl = [] ∧ ∃ b t', r = .bytes b t' ∧ KBw.bInts b = ap n.toNat) := by
  w_top off
  unfold Ct
  k_fill
  intro mean mg mb dp un gd cn cs a ccd cl outer A₀ base h₀ L m s Q E B F X N T hk hdp hun hret
  refine wpAny_call ?_
  have hAP : KBw.bInts #[65, 66, 67, 68, 69, 70, 71, 72, 73, 74, 75, 76, 77, 78, 79, 80] = [65, 66, 67, 68, 69, 70, 71, 72, 73, 74, 75, 76, 77, 78, 79, 80] := rfl
  k_dflt cell_enter
  (k_with "exec While Name cons nil" => k_while_given ["num!"] (fun n₀ script num v => 0 ≤ num ∧ num ≤ n₀ ∧ (KBw.bInts v).length ≤ 20 ∧ ap num.toNat ++ KBw.bInts v = ap n₀.toNat) (fun n₀ script num v => num.toNat) "num" "val")
  (k_with "state" => first | exact i2a_start (by split <;> omega) | exact i2a_turn h0 h1 (by assumption) (by assumption) (by assumption) (by assumption) (by assumption) (by assumption) | (trace_state; fail "st"))
  (k_with "measure" => exact i2a_less (by assumption) (by assumption))
  (k_with "binaryOp Add bytes bytes" => ((refine KBa.add_K (ap_cut (fmod_lo _ (by decide)) (fmod_hi _ (by decide))) rfl ?_ ?_); (case refine_1 => (simp only [List.length_cons, List.length_nil]; omega)); intro _ _ _))
  k_steps
  k_with_none
  exact hret _ [] _ _ (by k_asm) (by k_asm) (fun _ h => nomatch h) ⟨rfl, _, _, rfl, i2a_end h0 (by assumption) (by assumption)⟩
end Mine
namespace Mine
open PySem PySem.W PyProof.Rows PySem.Spec
section
variable {prog : Program} {w : World} {A : Around} {E : Value → Shared → Prop} {s : Shared} {env : Env} {h₀ : Heap} {x : Str} {body : List Stmt} {Q : Flow → Shared → Prop}
/-- a loop over a list of the ledger's; the ledger may turn whole but for that list -/
theorem loop_L {l : Addr} {vs : List Value} {ns : List Int} {nn : Nat} {m₀ : Str → Option Value} {news : List (Addr × Obj)} (J : Nat → (Str → Option Value) → List (Addr × Obj) → Prop)
    (hh : A.handled = none) (hl : (l, listOf vs.toArray nn) ∈ news) (hi : IntsAre vs ns) (hJl : ∀ i m nx, J i m nx → (l, listOf vs.toArray nn) ∈ nx) (F : Fr h₀ env.locals s.heap m₀) (N : News h₀ env.locals s.heap news) (hj : J 0 m₀ news)
    (turn : ∀ i n t m₁ nx h tk own, ns[i]? = some n → TbOff own nx → J i m₁ nx → Fr h₀ env.locals h (fun y => if y = x then some (.int n t) else m₁ y) → News h₀ env.locals h (nx ++ own) →
      wpAny (model prog w) A (execs body env) (TbPost h₀ env.locals (J (i + 1)) own { s with heap := h, toks := tk } Q) E { s with heap := h, toks := tk })
    (done : ∀ m₁ nx h tk, J ns.length m₁ nx → Fr h₀ env.locals h m₁ → News h₀ env.locals h nx → Q .next { s with heap := h, toks := tk }) :
    wpAny (model prog w) A (pyIter (.ref l)) (fun it s₂ => LoopAtV prog w A h₀ env x body Q E it s₂) E s := by
  have hol : s.heap.get? l = some (listOf vs.toArray nn) := (N _ hl).1
  have hls : s.heap.IsList l vs.toArray := ⟨_, hol, rfl, nn, rfl⟩
  have hne : l ≠ s.heap.objs.size := Nat.ne_of_lt (Heap.lt_size hol)
  refine wpAny_pyIter_list hls ?_
  have W := Walks.list (prog := prog) (w := w) hh s.heap.objs.size l hne vs.toArray
  have hlen : vs.toArray.size = ns.length := by simp [hi.length]
  rw [hlen] at W
  refine ⟨_, _, _, ns.length, _, _, m₀, news, J, rfl, W, ?_, ?_, ?_, ⟨⟨_, Heap.get?_push_size _ rfl, rfl, rfl⟩, hls.at fun o e => Heap.get?_push_of_some _ e⟩, F.push _, (fun p hp => ⟨Heap.get?_push_of_some _ (N p hp).1, (N p hp).2⟩), hj, ?_, ?_⟩
  · intro hm
    rcases List.mem_cons.mp hm with e | hm
    · exact absurd F.ns.lt (e ▸ Nat.lt_irrefl _)
    · exact (N _ hl).2.1 ((List.mem_singleton.mp hm).symm)
  · intro b hb
    rw [List.mem_singleton.mp hb]
    exact next_is_new F
  · intro p hp hI
    exact absurd (Heap.lt_size (N p hp).1) ((List.mem_singleton.mp hI) ▸ Nat.lt_irrefl _)
  · rintro i v m₁ nx s₁ own ⟨hh', tk', rfl⟩ hin hP hJ hoff hown hget hmem hst F₁ N₁
    obtain ⟨⟨oi, hoi, _⟩, _⟩ := hst
    have hI : (s.heap.objs.size, oi) ∈ own := hmem _ (.head _) (next_is_new F) oi hoi
    have hI' : (s.heap.objs.size, oi) ∈ own.filter (fun p => decide (p.1 = s.heap.objs.size)) := List.mem_filter.mpr ⟨hI, by simp⟩
    have hsep : TbOff (own.filter fun p => decide (p.1 = s.heap.objs.size)) nx := by
      intro p hp q hq e
      have h1 : p.1 = s.heap.objs.size := by simpa using (List.mem_filter.mp hp).2
      exact hoff q hq (List.mem_singleton.mpr (by rw [← e, h1]))
    have hlt' : i < ns.length := hin
    obtain ⟨t, hx⟩ := hi.get i ns[i] (by simp [hlt'])
    have hv : v = .int ns[i] t := by
      have hP' : vs[i]? = some v := by simpa using hP
      rw [hx] at hP'; exact (Option.some.inj hP').symm
    subst hv
    have N₂ : News h₀ env.locals hh' (nx ++ own.filter fun p => decide (p.1 = s.heap.objs.size)) := fun p hp => N₁ p ((List.mem_append.mp hp).elim (fun h => List.mem_append.mpr (.inr h)) fun h => List.mem_append.mpr (.inl ((List.mem_filter.mp h).1)))
    have hlo : hh'.get? l = some (listOf vs.toArray nn) := (N₁ _ (List.mem_append.mpr (.inr (hJl _ _ _ hJ)))).1
    refine wpAny_mono (turn i ns[i] t m₁ nx hh' tk' _ (by simp [hlt']) hsep hJ F₁ N₂) (fun f s₂ p => ?_) fun _ _ e => e
    have fin : TbEnd h₀ env.locals (J (i + 1)) (own.filter fun p => decide (p.1 = s.heap.objs.size)) { s with heap := hh', toks := tk' } s₂ → LoopStepU h₀ env.locals [s.heap.objs.size] own (J (i + 1)) { s with heap := hh', toks := tk' } .next s₂ := by
      rintro ⟨h', tk, m', news', nx', e, F', N', hn, ho, ha, hm⟩
      refine ⟨rfl, h', tk, m', nx', e, F', fun p hp => ?_, fun p hp hq => ha _ hI' p hp (List.mem_singleton.mp hq).symm, hm⟩
      rcases List.mem_append.mp hp with h | h
      · by_cases hIq : p.1 = s.heap.objs.size
        · exact N' p (ho p (List.mem_filter.mpr ⟨h, by simpa using hIq⟩))
        · have h1 : p.1 = l := by
            rcases List.mem_cons.mp (hown p h) with h2 | h2
            · exact absurd h2 hIq
            · exact List.mem_singleton.mp h2
          have h2 : hh'.get? p.1 = some p.2 := hget p h
          rw [h1, hlo] at h2
          have h3 : p = (l, listOf vs.toArray nn) := Prod.ext h1 (Option.some.inj h2).symm
          rw [h3]
          exact N' _ (hn _ (hJl _ _ _ hm))
      · exact N' p (hn p h)
    cases f with
    | ret v => exact .ret p
    | brk => exact .brk p
    | next => exact .next (fin p)
    | cont => exact .cont (fin p)
  · rintro h' tk m' news' F' N' _ hJ
    exact done m' news' h' tk hJ F' N'
/-- a loop over a range; the ledger may turn whole -/
theorem loop_R {r : Addr} {a₀ b₀ : Int} {t₀ u₀ v₀ : Tok} {n : Nat} {m₀ : Str → Option Value} {news : List (Addr × Obj)} (J : Nat → (Str → Option Value) → List (Addr × Obj) → Prop)
    (hh : A.handled = none) (hr : IsRange s.heap r a₀ b₀ 1 t₀ u₀ v₀) (hsmall : Builtin.Range.small a₀ b₀ 1 = true) (hn : Builtin.Range.rangeSize a₀ b₀ 1 = (n : Int)) (F : Fr h₀ env.locals s.heap m₀) (N : News h₀ env.locals s.heap news) (hj : J 0 m₀ news)
    (turn : ∀ (i : Nat) t m₁ nx h tk own, i < n → TbOff own nx → J i m₁ nx → Fr h₀ env.locals h (fun y => if y = x then some (.int (a₀ + (i : Int)) t) else m₁ y) → News h₀ env.locals h (nx ++ own) →
      wpAny (model prog w) A (execs body env) (TbPost h₀ env.locals (J (i + 1)) own { s with heap := h, toks := tk } Q) E { s with heap := h, toks := tk })
    (done : ∀ m₁ nx h tk, J n m₁ nx → Fr h₀ env.locals h m₁ → News h₀ env.locals h nx → Q .next { s with heap := h, toks := tk }) :
    wpAny (model prog w) A (pyIter (.ref r)) (fun it s₂ => LoopAtV prog w A h₀ env x body Q E it s₂) E s := by
  refine wpAny_pyIter_range hr hsmall ?_
  have W : Walks prog w A s.heap.objs.size [s.heap.objs.size] [s.heap.objs.size] n (fun i v => i < n ∧ ∃ t, v = .int (a₀ + i * 1) t)
      (fun i h => IsRangeIter h s.heap.objs.size (a₀ + (i : Nat) * 1) ((n : Int) - (i : Nat)) 1) := (Walks.range hh _ a₀ 1 n).bound
  refine ⟨_, _, _, n, _, _, m₀, news, J, rfl, W, ?_, ?_, ?_, by show IsRangeIter _ _ _ _ _; rw [hn]; simpa using Heap.get?_push_size _ rfl, F.push _, (fun p hp => ⟨Heap.get?_push_of_some _ (N p hp).1, (N p hp).2⟩), hj, ?_, ?_⟩
  · intro hm
    exact absurd F.ns.lt ((List.mem_singleton.mp hm) ▸ Nat.lt_irrefl _)
  · intro b hb
    rw [List.mem_singleton.mp hb]
    exact next_is_new F
  · intro p hp hI
    exact absurd (Heap.lt_size (N p hp).1) ((List.mem_singleton.mp hI) ▸ Nat.lt_irrefl _)
  · rintro i v m₁ nx s₁ own ⟨hh', tk', rfl⟩ hin ⟨_, t, rfl⟩ hJ hoff hown hget hmem hst F₁ N₁
    have e1 : a₀ + (i : Int) * 1 = a₀ + (i : Int) := by omega
    rw [e1] at F₁
    have hI := hmem _ (.head _) (next_is_new F) _ hst
    have hsep : TbOff own nx := by
      intro p hp q hq e
      exact hoff q hq (by rw [← e]; exact hown p hp)
    have N₂ : News h₀ env.locals hh' (nx ++ own) := fun p hp => N₁ p ((List.mem_append.mp hp).elim (fun h => List.mem_append.mpr (.inr h)) fun h => List.mem_append.mpr (.inl h))
    refine wpAny_mono (turn i t m₁ nx hh' tk' own hin hsep hJ F₁ N₂) (fun f s₂ p => ?_) fun _ _ e => e
    have fin : TbEnd h₀ env.locals (J (i + 1)) own { s with heap := hh', toks := tk' } s₂ → LoopStepU h₀ env.locals [s.heap.objs.size] own (J (i + 1)) { s with heap := hh', toks := tk' } .next s₂ := by
      rintro ⟨h', tk, m', news', nx', e, F', N', hn, ho, ha, hm⟩
      exact ⟨rfl, h', tk, m', nx', e, F', fun p hp => N' p ((List.mem_append.mp hp).elim (ho p) (hn p)), fun p hp hq => ha _ hI p hp (List.mem_singleton.mp hq).symm, hm⟩
    cases f with
    | ret v => exact .ret p
    | brk => exact .brk p
    | next => exact .next (fin p)
    | cont => exact .cont (fin p)
  · rintro h' tk m' news' F' N' _ hJ
    exact done m' news' h' tk hJ F' N'
end
theorem fr_at {h₀ h : Heap} {L : Addr} {m : Str → Option Value} {x : Str} {v : Value} (ps : List (Str × Value)) (hk : ∀ p ∈ ps, m p.1 = some p.2) (F : Fr h₀ L h (fun y => if y = x then some v else m y)) : Fr h₀ L h (fun y => if y = x then some v else kstB m ps y) := by
  have e : (fun y => if y = x then some v else kstB m ps y) = fun y => if y = x then some v else m y := by
    funext y
    rw [kstB_eq hk fun _ => rfl]
  rw [e]; exact F
theorem fr_at' {h₀ h : Heap} {L : Addr} {m : Str → Option Value} (ps : List (Str × Value)) (hk : ∀ p ∈ ps, m p.1 = some p.2) (F : Fr h₀ L h m) : Fr h₀ L h (kstB m ps) := by
  have e : kstB m ps = m := by
    funext y
    rw [kstB_eq hk fun _ => rfl]
  rw [e]; exact F
end Mine
namespace Mine
open PySem PySem.W PyProof.Rows PySem.Spec PySem.Calls
section
variable {prog : Program} {w : World} {A : Around} {E : Value → Shared → Prop} {s : Shared} {h₀ : Heap} {L : Addr} {m : Str → Option Value} {env : Env}
/-- a comprehension's source that is bytes -/
def SrcB (prog : Program) (w : World) (A : Around) (h₀ : Heap) (L : Addr) (m : Str → Option Value) (env : Env) (elt : PySem.Expr) (x : Str) (scope : Scope) (cl : List (Str × Addr)) (Fin : Shared → List Value → List (Addr × Obj) → Prop) (xv : Value) (s₁ : Shared) : Prop :=
  ∃ b t news, xv = .bytes b t ∧ A.handled = none ∧ Fr h₀ L s₁.heap m ∧ News h₀ L s₁.heap news ∧ b.size ≤ sizeLine ∧
    ∀ s₂ : Shared, (∃ h, s₂ = { s₁ with heap := h }) → LCg.CompRest prog w A h₀ L m env elt x scope cl s₂ (fun _ => True) (fun i v => ∃ c u, b[i]? = some c ∧ v = .int (c.toNat : Int) u) (Fin s₂) b.size 0 [] news
theorem SrcB.intro {elt : PySem.Expr} {x : Str} {scope : Scope} {cl : List (Str × Addr)} {Fin : Shared → List Value → List (Addr × Obj) → Prop} {b : Array UInt8} {t : Tok} {news : List (Addr × Obj)} {s₁ : Shared}
    (hh : A.handled = none) (F : Fr h₀ L s₁.heap m) (N : News h₀ L s₁.heap news) (hsz : b.size ≤ sizeLine)
    (h : ∀ g, LCg.CompRest prog w A h₀ L m env elt x scope cl { s₁ with heap := g } (fun _ => True) (fun i v => ∃ c u, b[i]? = some c ∧ v = .int (c.toNat : Int) u) (Fin { s₁ with heap := g }) b.size 0 [] news) :
    SrcB prog w A h₀ L m env elt x scope cl Fin (.bytes b t) s₁ := ⟨b, t, news, rfl, hh, F, N, hsz, fun _ ⟨g, e⟩ => e ▸ h g⟩
theorem ListComp_B {elt iter : PySem.Expr} {x : Str} {px : Pos} {scope : Scope} {cl : List (Str × Addr)} {pos : Pos} {Q : Value → Shared → Prop} (F₀ : Fr h₀ L s.heap m)
    (hclos : closureFor scope env = pure cl) (hcell : ∀ y ∈ scope.names, y.2 ≠ .cell) (hkind : scope.kind = .function)
    (hnames : ∀ y ∈ scope.names, y.2 = .local → scope.names.lookup y.1 = some .local) (hx : scope.names.lookup x = some .local)
    (h : wpAny (model prog w) A (eval iter env) (SrcB prog w A h₀ L m env elt x scope cl (fun s₂ => LCg.FinE h₀ L m s₂ Q)) E s)
    (hs : ∀ x, foldedSetIterable iter env x = pure x := by intro _; rfl) :
    wpAny (model prog w) A (eval (.ListComp elt [⟨.Name x px, iter, [], 0⟩] scope pos) env) Q E s := by
  rw [eval_ListComp]
  refine wpAny_comprehension_free (use := none) rfl hs hclos hkind hnames (wpAny_mono h (fun xv s₁ h₁ => ?_) fun _ _ e => e)
  obtain ⟨b, t, news, rfl, hh, F, N, hsz, R⟩ := h₁
  refine KBw.pyIter_bytes ?_
  refine LCg.block_U (KBw.walks hh _ b t) hsz (fun i h st => by obtain ⟨o, e, _⟩ := st; exact ⟨o, e⟩) (fun i h h' o nw st e e' _ _ _ => by obtain ⟨o', q, r⟩ := st; rw [e] at q; cases q; exact ⟨o, e', r⟩) hcell hkind hx ⟨_, Heap.get?_push_size _ rfl, rfl, rfl⟩ (fun b hb => ?_)
    (F.keeps fun _ _ e => Heap.get?_push_of_some _ e) (N.grown fun _ _ e => Heap.get?_push_of_some _ e) (Nat.ne_of_lt F.ns.lt) (next_is_new F) (fun p hp => Nat.ne_of_lt (Heap.lt_size (N p hp).1)) trivial (R _ ⟨_, rfl⟩) ?_
  · rw [List.mem_singleton.mp hb]
    show s₁.heap.objs.size < (s₁.heap.push _).objs.size
    rw [Heap.size_push]; exact Nat.lt_succ_self _
  · intro D C h' tk m' ys news' F' N' o1 hn hC₀ hD₀ hCL hDL hCD offC fin
    refine ⟨m', hn, fun h'' hs'' => fin D h'' tk (F'.change hs'' hCL hC₀) (fun p hp => ?_) o1⟩
    refine ⟨hs''.extBut _ _ ?_ (N' p hp).1, (N' p hp).2⟩
    rcases List.mem_cons.mp hp with rfl | hp
    · exact Ne.symm hCD
    · exact offC p hp
end
end Mine
namespace Mine
def figText (ns : List Int) : Str := Str.mk (ns.map fun f => 65 + f.toNat).toArray
def enc (ns : List Int) : Int := ns.foldl (fun n f => n * 16 + f) 1
theorem enc_snoc (ns : List Int) (f : Int) : enc (ns ++ [f]) = enc ns * 16 + f := by simp [enc]
theorem enc_bound : ∀ (k : Nat) (ns : List Int), ns.length = k → (∀ f ∈ ns, 0 ≤ f ∧ f < 16) → 16 ^ k ≤ enc ns ∧ enc ns < 2 * 16 ^ k := by
  intro k
  induction k with
  | zero => intro ns h _; have : ns = [] := List.length_eq_zero_iff.mp h; subst this; simp [enc]
  | succ k ih =>
    intro ns h hf
    obtain ⟨r, f, rfl⟩ : ∃ r f, ns = r ++ [f] := ⟨ns.dropLast, ns.getLast (by intro e; simp [e] at h), (List.dropLast_concat_getLast _).symm⟩
    have h1 := ih r (by simpa using h) (fun g hg => hf g (by simp [hg]))
    have h2 := hf f (by simp)
    rw [enc_snoc, Int.pow_succ]
    omega
theorem enc_pos {ns : List Int} (hf : ∀ f ∈ ns, 0 ≤ f ∧ f < 16) : 0 < enc ns := by
  have := (enc_bound _ ns rfl hf).1
  have h2 : (0:Int) < 16 ^ ns.length := Int.pow_pos (by decide)
  omega
theorem enc_small {ns : List Int} (hlen : ns.length ≤ 15) (hf : ∀ f ∈ ns, 0 ≤ f ∧ f < 16) : enc ns < 16 ^ 20 := by
  have := (enc_bound _ ns rfl hf).2
  have h1 : (16:Nat) ^ ns.length ≤ 16 ^ 15 := Nat.pow_le_pow_right (by decide) hlen
  have h2 : (16:Int) ^ ns.length ≤ 16 ^ 15 := by exact_mod_cast h1
  omega
theorem ap_one : ap 1 = [66] := by
  rw [ap_pos (by decide), show (1:Nat) / 16 = 0 from rfl, ap_zero]; rfl
theorem ap_enc : ∀ (k : Nat) (ns : List Int), ns.length = k → (∀ f ∈ ns, 0 ≤ f ∧ f < 16) → ap (enc ns).toNat = 66 :: ns.map fun f => 65 + f := by
  intro k
  induction k with
  | zero => intro ns h _; have : ns = [] := List.length_eq_zero_iff.mp h; subst this; exact ap_one
  | succ k ih =>
    intro ns h hf
    obtain ⟨r, f, rfl⟩ : ∃ r f, ns = r ++ [f] := ⟨ns.dropLast, ns.getLast (by intro e; simp [e] at h), (List.dropLast_concat_getLast _).symm⟩
    have hr : ∀ g ∈ r, 0 ≤ g ∧ g < 16 := fun g hg => hf g (by simp [hg])
    have h1 := ih r (by simpa using h) hr
    have h2 := hf f (by simp)
    have h3 := enc_pos hr
    rw [enc_snoc, ap_pos (by omega), show (enc r * 16 + f).toNat / 16 = (enc r).toNat by omega, h1, show (enc r * 16 + f).toNat % 16 = f.toNat by omega]
    simp
    omega
theorem join_flat : ∀ (l : List Str), (Str.join (Str.ofString "") l).cps.toList = l.flatMap fun x => x.cps.toList
  | [] => rfl
  | [x] => by simp [Str.join]
  | x :: y :: r => by
    have ih := join_flat (y :: r)
    have e : (Str.ofString "").cps = #[] := by decide
    show ((x ++ Str.ofString "") ++ Str.join (Str.ofString "") (y :: r)).cps.toList = _
    rw [Str.cps_append, Str.cps_append, Array.toList_append, Array.toList_append, ih, e]
    simp
theorem txt_join_flat (l : List Str) : (Txt.join (Str.ofString "") l).cps.toList = l.flatMap fun x => x.cps.toList := by
  show (Builtin.Str.glued (Str.ofString "") l).cps.toList = _
  rw [StrLaws.glued_eq_join, join_flat]
theorem str_ext {x y : Str} (h : x.cps.toList = y.cps.toList) : x = y := by
  obtain ⟨a⟩ := x
  obtain ⟨b⟩ := y
  simpa using h
theorem slice_one {x : Str} (h : 1 ≤ x.length) : Txt.slice x (some 1) none = ⟨(x.cps.toList.drop 1).toArray⟩ := by
  have h' : x.cps.toList.length = x.length := Array.length_toList
  show StrLaws.sliceText x (some 1) none = _
  rw [StrLaws.sliceText_from ⟨by decide, by omega⟩]
  rw [List.take_of_length_le (by simp)]
  rfl
theorem slice_less {n : Nat} (h : 1 ≤ n) : (Builtin.Str.strSliceIndices (some 1) none 1 n).length ≠ n := by
  unfold Builtin.Str.strSliceIndices sliceRange
  simp only [show (1 : Int) > 0 by decide, if_true, List.length_map, List.length_range]
  split <;> omega
theorem ones_flat (ks : List Int) : (ks.map fun k => ({ cps := #[k.toNat] } : Str)).flatMap (fun x => x.cps.toList) = ks.map Int.toNat := by
  induction ks with
  | nil => rfl
  | cons k r ih => simp [List.flatMap_cons, ih]
theorem row_text {ns ks : List Int} (hk : ks = ap (enc ns).toNat) (hf : ∀ f ∈ ns, 0 ≤ f ∧ f < 16) :
    Txt.slice (Txt.join (Str.ofString "") (ks.map fun k => ({ cps := #[k.toNat] } : Str))) (some 1) none = figText ns := by
  have e : (Txt.join (Str.ofString "") (ks.map fun k => ({ cps := #[k.toNat] } : Str))).cps.toList = 66 :: ns.map fun f => 65 + f.toNat := by
    rw [txt_join_flat, ones_flat, hk, ap_enc _ ns rfl hf]
    simp only [List.map_cons, List.map_map]
    congr 1
    refine List.map_congr_left fun f h => ?_
    have := hf f h
    show (65 + f).toNat = _
    omega
  rw [slice_one, e]
  · rfl
  · show 1 ≤ Array.size _
    rw [← Array.length_toList, e]
    simp
theorem figText_len (ns : List Int) : (figText ns).length = ns.length := by simp [figText, Str.length]
end Mine
namespace Mine
section
variable {prog : Program} {w : World} {A : Around} {E : Value → Shared → Prop} {s : Shared} {h₀ : Heap} {L : Addr} {m : Str → Option Value} {news : List (Addr × Obj)}
theorem slice_tok {value slice : PySem.Expr} {x : Str} {t ui : Tok} {i : Int} {Q : Value → Shared → Prop} (hF : Fr h₀ L s.heap m) (N : News h₀ L s.heap news) (hl : (Builtin.Str.strSliceIndices (some i) none 1 x.length).length ≠ x.length) (hsz : x.length ≤ sizeLine)
    (h : ∀ h', Fr h₀ L h' m → News h₀ L h' news → Q (.str (Txt.slice x (some i) none) s.toks) { s with heap := h', toks := s.toks + 1 })
    (hs : subscripted slice false (.str x t) (.ref s.heap.objs.size) = operate [.ref s.heap.objs.size, .str x t] (getItem (.str x t) (.ref s.heap.objs.size)) := by with_unfolding_all rfl)
    (ht : ∀ r, letTemporaryGo value (.str x t) r = pure () := by intro _; with_unfolding_all rfl) :
    wpAny (model prog w) A (subscriptTail value slice (.str x t) (.ref s.heap.objs.size)) Q E { s with heap := s.heap.push { cls := .type "slice", data := .fields #[.int i ui, .none, .none] } } := by
  refine tail_of_ItemOn ⟨"str", _, F.slot_str_getitem.lookup, typeIs_str _ _ _, wpAny_getItem_str_slice (l := some (i, ui)) (u := none) (st := none) ⟨_, Heap.get?_push_size _ rfl, rfl, rfl⟩ rfl ?_⟩ hs ht
  have e : Txt.slice x (some i) none = ⟨((Builtin.Str.strSliceIndices (some i) none 1 x.length).filterMap (x.cps[·]?)).toArray⟩ := by
    unfold Txt.slice
    rw [if_neg (by simpa using hl)]
  unfold sliceMade slicePicked
  rw [if_neg (by simpa using hl)]
  refine ⟨?_, ?_⟩
  · have := Txt.slice_le x (some i) none
    rw [e] at this
    exact Nat.le_trans this hsz
  · have h' := h (s.heap.push { cls := .type "slice", data := .fields #[.int i ui, .none, .none] }) (hF.push _) (N.grown fun _ _ e => Heap.get?_push_of_some _ e)
    rw [e] at h'
    exact h'
end
local macro_rules | `(tactic| walk_at "call ref") => `(tactic| (k_here; (with_reducible show wpAny _ _ (call (Value.ref 37) [Value.int _ _]) _ _ _); k_dflt (refine' ct_use ?k1 ?k2 ?k3 ?k4 ?k5 ?kK (int2ap_c _ _ _ _ ?h0 ?h1) ?kd ?ku ?_; (case k1 => k_asm); (case k2 => k_asm); (case k3 => k_asm); (case k4 => k_asm); (case k5 => k_asm); (case kK => first | exact rfl | assumption); (case h0 => omega); (case h1 => omega); (case kd => ktr_room); (case ku => ktr_units); k_whole); intro r9 tl9 h9 tk9 htk9 F9 N9 hl9 ho9; obtain ⟨e9, b9, t9, q9, hb9⟩ := ho9; subst e9; subst q9; clear hl9; (try simp only [List.nil_append] at N9); (try dsimp only); (try k_fold)))
local macro_rules | `(tactic| walk_at "eval ListComp") => `(tactic| (k_here; k_dflt (refine ListComp_B (F₀ := by k_asm) (by with_unfolding_all rfl) (by decide) (by rfl) (by decide) (by rfl) ?_)))
theorem with_toks {α : Type} {M : Model} {A : Around} {s : Shared} {t : Sem α} {Q : α → Shared → Prop} {E : Value → Shared → Prop} {n : Nat} (hn : n ≤ s.toks) (h : wpAny M A t (fun a s' => n ≤ s'.toks → Q a s') E s) : wpAny M A t Q E s :=
  wpAny_mono (wpAny_toks_of hn h) (fun _ _ x => x.2 x.1) (fun _ _ x => x.2)
structure TokMark : Prop where
theorem tokMark : TokMark := ⟨⟩
local macro_rules | `(tactic| walk_at "eval Call Attribute") => `(tactic| (k_here; (fail_if_success (rename TokMark => hTm)); have hTm := tokMark; refine with_toks (by assumption) ?_))
local macro_rules | `(tactic| walk_at "subscriptTail Call") => `(tactic| (k_here; (rename (Str.length _ = List.length _) => hLn); k_dflt (refine slice_tok (by k_asm) (by k_asm) (by rw [hLn]; exact slice_less (by omega)) (by rw [hLn, PySem.sizeLine_eq]; omega) ?_ (by with_unfolding_all rfl) (by intro _; with_unfolding_all rfl)); intro h' F' N'; (try dsimp only)))
set_option maxRecDepth 100000 in
set_option maxHeartbeats 8000000 in
theorem row_c (w : World) (news : List (Addr × Obj)) (l : Addr) (vs : List Value) (ns : List Int) (c : Nat) (hm : (l, listOf vs.toArray c) ∈ news) (hi : IntsAre vs ns) (hlen : ns.length ≤ 15) (hf : ∀ f ∈ ns, 0 ≤ f ∧ f < 16) :
    Ct 16 128 w 42 [.ref l] news (fun _ tk₁ r tl => tl = [] ∧ ∃ t, r = .str (figText ns) t ∧ 0 < t ∧ t < tk₁) := by
  w_top off
  unfold Ct
  k_fill
  intro mean mg mb dp un gd cn cs a ccd cl outer A₀ base h₀ L m s Q E B F X N T hk hdp hun hret
  refine wpAny_call ?_
  k_dflt cell_enter
  k_steps
  refine with_toks (n := 1) (by dsimp only; omega) ?_
  refine For_invVF (by assumption) (by exact rfl) (by exact rfl) ?_
  k_steps
  rename Fr _ _ _ _ => F'
  rename News _ _ _ _ => N'
  refine loop_L (fun i m nx => nx = news ∧ ∃ t, m (Str.ofString "number") = some (.int (enc (ns.take i)) t)) (by rfl) hm hi (fun _ _ _ h => h.1 ▸ hm) F' N' ?hj ?_ ?_
  case hj => with_unfolding_all exact ⟨rfl, _, rfl⟩
  · clear F' N'
    rintro i n t m₁ nx h tk own hn hoff ⟨rfl, tn, hnum⟩ F₁ N₁
    replace F₁ := fr_at [(Str.ofString "number", .int (enc (ns.take i)) tn)] (by simpa using hnum) F₁
    dsimp only [kstB] at F₁
    k_steps
    rename News _ _ _ _ => N₂
    refine ⟨_, _, _, _, nx, rfl, by assumption, N₂, fun p hp => List.mem_append.mpr (.inl hp), fun p hp => List.mem_append.mpr (.inr hp), hoff, rfl, ?_⟩
    have hs : ns.take (i + 1) = ns.take i ++ [n] := by simp [List.take_add_one, hn]
    rw [hs, enc_snoc]
    with_unfolding_all exact ⟨_, rfl⟩
  · clear F' N'
    rintro m₁ nx h tk ⟨rfl, tn, hnum⟩ F₁ N₁ htk
    rw [List.take_length] at hnum
    have hE0 := enc_pos hf
    have hE1 := enc_small hlen hf
    replace F₁ := fr_at' [(Str.ofString "number", .int (enc ns) tn)] (by simpa using hnum) F₁
    dsimp only [kstB] at F₁
    k_steps
    rename_i tk9 htk9 F9 b9 t9 hb9 N9
    have hsz : b9.size ≤ 20 := by
      have := KBw.ints_length b9
      rw [hb9] at this
      have h2 := ap_len 20 (enc ns).toNat (by omega)
      omega
    have hsz1 : b9.size = ns.length + 1 := by
      have := KBw.ints_length b9
      rw [hb9, ap_enc _ _ rfl hf] at this
      simpa using this.symm
    refine SrcB.intro (by rfl) (by k_asm) (by k_asm) (by rw [PySem.sizeLine_eq]; omega) ?_
    intro g'
    refine' kct_rest (ks := KBw.bInts b9) (fun k => ⟨#[k.toNat]⟩) (KBw.ints_length b9) (fun i v _ hv => by obtain ⟨c, u, hc, rfl⟩ := hv; exact ⟨_, u, KBw.ints_get hc, rfl⟩) (fun k' t' I' oI' C' oC' D' m' ys' h' tk' E' hk' hC' hx' F' N' off' ne' hMark' => ?_) ?_
    · have hk'' := KBw.ints_in hk'
      k_steps
      exact LCg.CompEnd.intro (by assumption) (by assumption) nx (fun _ hp => hp) off' trivial (kct_el rfl rfl rfl)
    · unfold KPfDone
      intro ys hc hlen'
      k_steps
      rename (1 ≤ _) => htk2
      dsimp only at htk2
      rename Fr _ _ _ _ => kF
      rename News h₀ _ _ _ => kN
      exact hret _ [] _ _ kF (fun p hp => kN p (.tail _ hp)) (fun _ h => nomatch h) ⟨rfl, _, congrArg (fun x => Value.str x _) (row_text hb9 hf), Nat.succ_pos _, Nat.lt_succ_self _⟩
end Mine
namespace Mine
open PySem PySem.W PyProof.Rows PySem.Spec PySem.Calls
section
variable {prog : Program} {w : World} {A : Around} {E : Value → Shared → Prop} {s : Shared}
/-- the next pair of a dict's items, to the sign: the entry's own key and value -/
theorem next_entry {it d : Addr} {i ep : Nat} {es : Array DictEntry} {e : DictEntry} {od : Obj} {ok ov : Value} {Q : Option Value → Shared → Prop} (hit : IsItemIter s.heap it d i es.size ep ok ov)
    (hod : s.heap.get? d = some od) (hdd : od.data = .dict es ep) (hx : es[i]? = some e)
    (hQ : ∀ h', IsItemIterOut h' it d (i + 1) es.size ep e.key e.val s.heap.objs.size → h'.get? s.heap.objs.size = some { cls := .type "tuple", data := .seq #[e.key, e.val] } →
      (∀ b o, b ≠ it → s.heap.get? b = some o → h'.get? b = some o) → Q (some (.ref s.heap.objs.size)) { s with heap := h' }) :
    wpAny (model prog w) A (pyNext (.ref it)) Q E s := by
  obtain ⟨g0, gens, dr, tk, os⟩ := s
  have hT : Shared.TypeIs ⟨g0, gens, dr, tk, os⟩ (.ref it) "dict_itemiterator" := ⟨_, hit, rfl⟩
  have own : Builtin.Dict_items.ownsTuple "dict_itemiterator" = true := by decide
  have hlt : i < es.size := by
    rcases Nat.lt_or_ge i es.size with h | h
    · exact h
    · rw [Array.getElem?_eq_none h] at hx; cases hx
  unfold pyNext
  refine wpAny_bind (wpAny_attempt (wpAny_callSpecial?_slot (name := Str.ofString "__next__") hT F.slot_dict_itemiterator_next
    (wpAny_call_entry F.slot_dict_itemiterator_next hT F.entry_dict_itemiterator_next ?_ (F.args_dict_itemiterator_next_1 _))))
  refine wpAny_bind (wpAny_pure (wpAny_bind (wpAny_bind (wpAny_bind (wpAny_typeNameOfWhole_itemiter hT (wpAny_pure ?_))))))
  refine wpAny_bind (wpAny_fieldsOf hit rfl ?_)
  simp only [own, if_true]
  show wpAny _ _ (if (Value.ref d == Value.none) = true then _ else _) _ _ _
  rw [if_neg (show ¬ ((Value.ref d == Value.none) = true) from Bool.false_ne_true)]
  refine wpAny_bind (wpAny_pure (wpAny_bind (wpAny_dictEntries hod hdd ?_)))
  rw [if_neg (by simp)]
  refine wpAny_bind (wpAny_pure (wpAny_bind (wpAny_dictEpoch hod hdd ?_)))
  rw [if_neg (by simp)]
  refine wpAny_pure ?_
  simp only [show ¬ ((i : Int) < 0) from by omega, if_false, Int.toNat_natCast, hx]
  refine wpAny_bind (wpAny_bind (wpAny_typeNameOfWhole_itemiter hT (wpAny_pure ?_)))
  refine wpAny_bind (wpAny_isOneOf_itemiter hT ?_)
  show wpAny _ _ (setField (.ref it) 3 (rawInt ((i : Int) + 1)) >>= _) _ _ ⟨g0, gens, dr, tk, os⟩
  refine wpAny_bind (wpAny_setField_rec hit (by simp) fun g1 he1 hs1 => ?_)
  replace hs1 : Heap.SameBut it g0 g1 := hs1
  replace he1 : IsItemIter g1 it d (i + 1) es.size ep ok ov := by
    unfold IsItemIter
    rw [show ((i + 1 : Nat) : Int) = (i : Int) + 1 from by omega]
    simpa [rawInt] using he1
  have hT1 : Shared.TypeIs ⟨g1, gens, dr, tk, os⟩ (.ref it) "dict_itemiterator" := ⟨_, he1, rfl⟩
  refine wpAny_bind (wpAny_holding (wpAny_bind (wpAny_isOneOf_itemiter hT1 (wpAny_bind (wpAny_isOneOf_itemiter hT1 ?_)))))
  show wpAny _ _ (Builtin.Dict_items.pairFromOwner (.ref it) 6 e.key e.val) _ _ ⟨g1, gens, dr, tk, os⟩
  unfold Builtin.Dict_items.pairFromOwner
  refine wpAny_bind (wpAny_newTuple ?_)
  have sz1 : g1.objs.size = g0.objs.size := hs1.1
  have hil : it < g0.objs.size := Heap.lt_size hit
  have up : ∀ b o, g1.get? b = some o → (g1.push { cls := .type "tuple", data := .seq #[e.key, e.val] }).get? b = some o := fun b o q => Heap.get?_push_of_some _ q
  have ht2 : (g1.push { cls := .type "tuple", data := .seq #[e.key, e.val] }).get? g0.objs.size = some { cls := .type "tuple", data := .seq #[e.key, e.val] } := by rw [← sz1]; exact Heap.get?_push_size _ rfl
  generalize (g1.push { cls := .type "tuple", data := .seq #[e.key, e.val] }) = g2 at up ht2
  have he2 : IsItemIter g2 it d (i + 1) es.size ep ok ov := up _ _ he1
  have kp : ∀ b o, b ≠ it → g0.get? b = some o → g2.get? b = some o := fun b o hb q => up _ _ (hs1.extBut b o hb q)
  rw [sz1]
  show wpAny _ _ (Builtin.Dict_items.ownedTupleIsFree (.ref it) >>= _) _ _ ⟨g2, gens, dr, tk, os⟩
  clear up he1 hs1 hT1 sz1 g1
  refine wpAny_bind ?_
  unfold Builtin.Dict_items.ownedTupleIsFree
  refine wpAny_bind (wpAny_field he2 rfl (x := .none) rfl (wpAny_pure ?_))
  simp only [if_true]
  refine wpAny_bind (wpAny_field he2 rfl (x := ok) rfl (wpAny_bind (wpAny_field he2 rfl (x := ov) rfl ?_)))
  refine wpAny_bind (wpAny_setField_rec he2 (by simp) fun g3 he3 hs3 => ?_)
  replace hs3 : Heap.SameBut it g2 g3 := hs3
  replace he3 : IsItemIter g3 it d (i + 1) es.size ep e.key ov := he3
  refine wpAny_bind (wpAny_setField_rec he3 (by simp) fun g4 he4 hs4 => ?_)
  replace hs4 : Heap.SameBut it g3 g4 := hs4
  replace he4 : IsItemIter g4 it d (i + 1) es.size ep e.key e.val := he4
  refine wpAny_bind (wpAny_setField_rec he4 (by simp) fun g5 he5 hs5 => ?_)
  replace hs5 : Heap.SameBut it g4 g5 := hs5
  replace he5 : IsItemIterOut g5 it d (i + 1) es.size ep e.key e.val g0.objs.size := he5
  refine wpAny_bind (wpAny_setField_rec he5 (by simp) fun g6 he6 hs6 => ?_)
  replace hs6 : Heap.SameBut it g5 g6 := hs6
  replace he6 : IsItemIterOut g6 it d (i + 1) es.size ep e.key e.val g0.objs.size := he6
  have all : ∀ b o, b ≠ it → g2.get? b = some o → g6.get? b = some o := fun b o hb q => hs6.extBut b o hb (hs5.extBut b o hb (hs4.extBut b o hb (hs3.extBut b o hb q)))
  exact wpAny_bind (wpAny_letGo (wpAny_pure (wpAny_pure ⟨_, rfl, wpAny_pure (hQ g6 he6 (all _ _ (Nat.ne_of_gt hil) ht2) fun b o hb q => all b o hb (kp b o hb q))⟩)))
end
end Mine
namespace Mine
open PySem PySem.W PyProof.Rows PySem.Spec PySem.Calls
abbrev oneDict (w : World) (k : Str) (u : Tok) (v : Value) (n : Nat) : Obj := dictOf [⟨hashStr w k, .str k u, v⟩] n
theorem oneDict_is (prog : Program) (w : World) (k : Str) (u : Tok) (v : Value) (n : Nat) : (oneDict w k u v n).IsDictOf (PySem.strKind prog w) [(k, v)] := by
  refine ⟨_, n, ⟨rfl, rfl, rfl⟩, rfl, ?_, ?_, ?_⟩
  · intro e he
    simp at he
    subst he
    exact ⟨k, by simp [PySem.strKind, Value.isStrOf], rfl⟩
  · exact .cons (by simp [PySem.strKind, Value.isStrOf]) rfl .nil
  · simp
theorem oneDict_at {prog : Program} {w : World} {h : Heap} {d : Addr} {k : Str} {u : Tok} {v : Value} {n : Nat} (e : h.get? d = some (oneDict w k u v n)) : h.DictAt (PySem.strKind prog w) d [(k, v)] n := by
  refine ⟨_, _, e, ⟨rfl, rfl, rfl⟩, rfl, ?_, ?_, ?_⟩
  · intro e he
    simp at he
    subst he
    exact ⟨k, by simp [PySem.strKind, Value.isStrOf], rfl⟩
  · exact .cons (by simp [PySem.strKind, Value.isStrOf]) rfl .nil
  · simp
section
variable {prog : Program} {w : World} {A : Around} {E : Value → Shared → Prop} {s : Shared} {env : Env} {h₀ : Heap} {body : List Stmt} {Q : Flow → Shared → Prop} {k : Str} {u : Tok} {v : Value} {n : Nat}
theorem one_turns {elts : List PySem.Expr} {kk : Nat} {pos : Pos} (hh : A.handled = none) (I d : Addr) (hne : d ≠ I) :
    KTurns prog w A (.Tuple elts kk pos) I [I, d] [I] 1
      (fun i x h => ∃ T, x = .ref T ∧ i = 0 ∧ h.IsTuple T #[.str k u, v])
      (fun i x h => ∃ T ok ov, x = .ref T ∧ i = 0 ∧ h.IsTuple T #[.str k u, v] ∧ IsItemIterOut h I d (i + 1) 1 n ok ov T ∧ h.get? d = some (oneDict w k u v n) ∧ T ≠ I)
      (fun i h => (∃ ok ov, IsItemIter h I d i 1 n ok ov) ∧ h.get? d = some (oneDict w k u v n)) where
  sub := fun b hb => by simp at hb; simp [hb]
  frame := fun i h h' st hk => by
    obtain ⟨⟨ok, ov, he⟩, hm⟩ := st
    exact ⟨⟨ok, ov, hk I (by simp) _ he⟩, hk d (by simp) _ hm⟩
  item := fun i s Q E hi st hQ => by
    obtain ⟨⟨ok, ov, he⟩, hm⟩ := st
    obtain rfl : i = 0 := by omega
    refine next_entry (es := [⟨hashStr w k, .str k u, v⟩].toArray) (e := ⟨hashStr w k, .str k u, v⟩) he hm rfl rfl fun h' ho hT hk => ?_
    exact hQ (.ref s.heap.objs.size) h' s.toks ⟨s.heap.objs.size, _, _, rfl, rfl, ⟨_, hT, rfl, _, rfl⟩, ho, hk d _ hne hm, Nat.ne_of_gt (Heap.lt_size he)⟩ fun b o hb e => hk b o (fun h => hb (by simp [h])) e
  go := fun i x s Q E hm hQ => by
    obtain ⟨T, ok, ov, rfl, rfl, hT, ho, hd, hTI⟩ := hm
    refine wpAny_letOwnedTupleGo_items ho fun h' he hs => ?_
    exact hQ h' ⟨T, rfl, rfl, hT.at fun o e => hs.extBut T o hTI e⟩ ⟨⟨ok, ov, he⟩, hs.extBut d _ hne hd⟩ fun b o hb e => hs.extBut b o (fun h => hb (by simp [h])) e
  done := fun s Q E st hQ => by
    obtain ⟨⟨ok, ov, he⟩, hm⟩ := st
    exact wpAny_pyNext_items_end (kvs := [(k, v)]) hh he (oneDict_at (prog := prog) hm) (by simp) fun h' hx => hQ h' s.toks fun b o hb e => hx b o (fun h => hb (by simp [h])) e
theorem one_items {elts : List PySem.Expr} {kk : Nat} {pos : Pos} {d vw : Addr} {m₀ : Str → Option Value} {news : List (Addr × Obj)}
    (hh : A.handled = none) (hF : Fr h₀ env.locals s.heap m₀) (N : News h₀ env.locals s.heap news) (hvw : ∃ ov, s.heap.get? vw = some ov ∧ ov.cls = .type "dict_items" ∧ ov.data = .fields #[.ref d]) (hm : (d, oneDict w k u v n) ∈ news)
    (rest₀ : ∀ I : Addr, (∀ p ∈ news, p.1 < I) → ItemsRest prog w A E h₀ env (.Tuple elts kk pos) body Q s [(I, "dict_itemiterator")] [(d, oneDict w k u v n)] [.pair (fun _ => .str k u) v] m₀ news) :
    wpAny (model prog w) A (pyIter (.ref vw)) (fun it s₂ => TurnsAt prog w A h₀ env (.Tuple elts kk pos) body Q E it s₂) E s := by
  have hax := N _ hm
  have hat := oneDict_at (prog := prog) hax.1
  have hne : d ≠ s.heap.objs.size := Nat.ne_of_lt hat.lt_size
  refine wpAny_pyIter_items hvw hat ?_
  refine ktu_core (tk0 := s.toks) (keep := [(d, oneDict w k u v n)]) (one_turns (k := k) (u := u) (v := v) (n := n) hh s.heap.objs.size d hne) rfl ?_ ?_ ?_ ?_ ?_ ?_ ?_ ?_ (hF.push _) (fun p hp => ⟨Heap.get?_push_of_some _ (N p hp).1, (N p hp).2⟩) (And.intro hm trivial) (rest₀ _ fun p hp => Heap.lt_size (N p hp).1)
  · rintro i x h ⟨T', rfl, rfl, hT⟩
    exact ⟨_, rfl, T', 0, rfl, hT⟩
  · rintro i h ⟨⟨ok, ov, he⟩, _⟩
    exact ⟨[(s.heap.objs.size, _)], ⟨⟨rfl, rfl⟩, trivial⟩, fun p hp => by rw [List.mem_singleton.mp hp]; exact he⟩
  · intro b hb
    have hb' : b = s.heap.objs.size := by simpa using hb
    rw [hb']
    exact ⟨List.mem_cons_self .., next_is_new hF⟩
  · intro b hb
    simpa using hb
  · intro b hb
    have hb' : b = s.heap.objs.size ∨ b = d := by simpa using hb
    rcases hb' with e | e
    · exact .inl (by simp [e])
    · exact .inr ⟨_, by rw [e]; exact List.mem_cons_self⟩
  · intro hI
    have hb' : env.locals = s.heap.objs.size ∨ env.locals = d := by simpa using hI
    rcases hb' with e | e
    · exact absurd hF.ns.lt (e ▸ Nat.lt_irrefl _)
    · exact hax.2.1 e.symm
  · intro p hp hI
    exact absurd (Heap.lt_size (N p hp).1) ((List.mem_singleton.mp hI) ▸ Nat.lt_irrefl _)
  · exact ⟨⟨.none, .none, Heap.get?_push_size _ rfl⟩, Heap.get?_push_of_some _ hax.1⟩
end
end Mine
namespace Mine
open PySem PySem.W PyProof.Rows PySem.Spec PySem.Calls
theorem replace_to {prog : Program} {w : World} {A : Around} {E : Value → Shared → Prop} {s : Shared} {x y z r : Str} {t u v : Nat} {Q : Value → Shared → Prop} (he : Txt.replace x y z = r) (hn : 1 ≤ s.toks) (hu : 1 ≤ u) (hv : 1 ≤ v) (huv : u ≠ v) (hyz : (y == z) = false) (hx : x.length ≤ 100) (hz : z.length ≤ 14)
    (hq : ∀ t' k, 1 ≤ k → Q (.str r t') { s with toks := k }) : wpAny (model prog w) A (call (.builtin "str.replace") [.str x t, .str y u, .str z v]) Q E s :=
  with_toks hn (SC.replaceW (Nat.ne_of_gt hu) (Nat.ne_of_gt hv) huv hyz (Nat.le_trans hx (by decide)) hz fun t' k h => he ▸ hq t' k h)
theorem toks_gen {α : Type} {M : Model} {A : Around} {t : Sem α} {Q : α → Shared → Prop} {E : Value → Shared → Prop} {h : Heap} {g d o} {k : Nat} (hh : ∀ k, 1 ≤ k → wpAny M A t Q E ⟨h, g, d, k, o⟩) : wpAny M A t Q E ⟨h, g, d, k + 1, o⟩ := hh (k + 1) (Nat.le_add_left 1 k)
local macro_rules | `(tactic| walk_at "execs cons") => `(tactic| (k_here; (with_reducible show wpAny _ _ _ _ _ (Shared.mk _ _ _ (_ + 1) _)); (with_reducible refine toks_gen ?_); intro tk htk; (try dsimp only)))
local macro_rules | `(tactic| walk_at "execs nil") => `(tactic| (k_here; (with_reducible show wpAny _ _ _ _ _ (Shared.mk _ _ _ (_ + 1) _)); (with_reducible refine toks_gen ?_); intro tk htk; (try dsimp only)))
local macro_rules | `(tactic| walk_at "call builtin:str.replace") => `(tactic| (k_here; (with_reducible show wpAny _ _ (call (Value.builtin "str.replace") [Value.str _ _, Value.str _ _, Value.str _ _]) _ _ _); (refine replace_to (by assumption) (by dsimp only; omega) (by omega) (by omega) (by omega) (by first | decide | assumption) (by first | assumption | omega) (by first | decide | omega) ?_); intro t' k' hk'; (try dsimp only)))
set_option maxRecDepth 100000 in
set_option maxHeartbeats 8000000 in
theorem drep_c (w : World) (news : List (Addr × Obj)) (x y k v : Str) (tx u t : Nat) (d : Addr) (n : Nat) (hx : x.length ≤ 100) (hv : v.length ≤ 14) (hkv : (k == v) = false) (hu : 1 ≤ u) (ht : 1 ≤ t) (hut : u ≠ t) (h3 : Txt.replace x k v = y) (hlo : (d == sysModules) = false) (hm : (d, oneDict w k u (.str v t) n) ∈ news) :
    Ct 8 64 w 21 [.str x tx, .ref d] news (fun _ _ r tl => tl = [] ∧ ∃ t, r = .str y t) := by
  w_top off
  unfold Ct
  k_fill
  intro mean mg mb dp un gd cn cs a ccd cl outer A₀ base h₀ L m s Q E B F X N T hk hdp hun hret
  refine wpAny_call ?_
  have hod := oneDict_is PySem.Challenge.rw_ik0011_01.row.prog w k u (.str v t) n
  k_dflt cell_enter
  k_steps
  rename Fr _ _ _ _ => F'
  rename News _ _ _ _ => N'
  refine For_turns F' ?_
  refine MethodCall_ ?_
  k_dflt (refine ld F' (by rfl) ?_)
  refine kdl_method (knd := PySem.strKind _ _) PySem.F.slot_dict_items PySem.F.type_dict_items N' hm hod ?_
  refine callWith_method0 ?_
  refine kta_callItems (knd := PySem.strKind _ _) F' N' hm hod hlo ?_
  intro h1 hv1 F1 N1
  refine one_items (by rfl) F1 N1 hv1 hm ?_
  clear F' N'
  intro I hI
  k_steps
  rename Fr _ _ _ _ => F2
  rename News _ _ _ _ => N2
  refine ⟨_, _, _, news, rfl, F2, N2, ?_, ⟨hm, trivial⟩, ?_⟩
  · intro p hp q hq
    rw [List.mem_singleton.mp hq]
    exact Nat.ne_of_lt (hI p hp)
  · intro h3 tk3 F3 N3
    k_steps
    rename Fr h₀ _ _ _ => kF
    rename News h₀ _ _ _ => kN
    exact hret _ [] _ _ kF kN (fun _ h => nomatch h) ⟨rfl, _, rfl⟩
local macro_rules | `(tactic| walk_at "call ref") => `(tactic| (k_here; (with_reducible show wpAny _ _ (call (Value.ref 21) [Value.str _ _, Value.ref _]) _ _ _); k_dflt (refine' ct_use ?k1 ?k2 ?k3 ?k4 ?k5 ?kK (drep_c _ _ _ _ _ _ _ _ _ _ _ ?h0 ?h1 ?h2 ?h3 ?h4 ?h5 ?h6 ?h7 ?h8) ?kd ?ku ?_; (case k1 => k_asm); (case k2 => k_asm); (case k3 => k_asm); (case k4 => k_asm); (case k5 => k_asm); (case kK => first | exact rfl | assumption); (case h8 => assumption); (case h0 => assumption); (case h1 => assumption); (case h2 => assumption); (case h3 => assumption); (case h4 => assumption); (case h5 => assumption); (case h6 => assumption); (case h7 => assumption); (case kd => ktr_room); (case ku => ktr_units); k_whole); intro r9 tl9 h9 tk9 htk9 F9 N9 hl9 ho9; obtain ⟨e9, t9, q9⟩ := ho9; subst e9; subst q9; clear hl9; (try simp only [List.nil_append] at N9); (try dsimp only); (try k_fold)))
local macro_rules | `(tactic| walk_at "truthy ref") => `(tactic| (k_here; (rename Obj.IsDictOf _ _ _ => hOd); (refine wpAny_truthy_dict (by assumption) (kda_dict (by k_asm) (by assumption) hOd) (by show (1 : Int) < 2 ^ 63; decide) ?_); dsimp only [List.isEmpty, Bool.not_false]))
set_option maxRecDepth 100000 in
set_option maxHeartbeats 8000000 in
theorem unesc_c (w : World) (news : List (Addr × Obj)) (x y k v : Str) (tx u t : Nat) (d : Addr) (n : Nat) (hx : x.length ≤ 100) (hy : y.length ≤ 100) (hv : v.length ≤ 14) (hkv : (k == v) = false) (hu : 1 ≤ u) (ht : 1 ≤ t) (hut : u ≠ t) (h1 : Txt.replace x (Str.ofString "&lt;") (Str.ofString "<") = x) (h2 : Txt.replace x (Str.ofString "&gt;") (Str.ofString ">") = x) (h3 : Txt.replace x k v = y) (h4 : Txt.replace y (Str.ofString "&amp;") (Str.ofString "&") = y) (hlo : (d == sysModules) = false) (hm : (d, oneDict w k u (.str v t) n) ∈ news) :
    Ct 16 128 w 30 [.str x tx, .ref d] news (fun _ _ r tl => tl = [] ∧ ∃ t, r = .str y t) := by
  w_top off
  unfold Ct
  k_fill
  intro mean mg mb dp un gd cn cs a ccd cl outer A₀ base h₀ L m s Q E B F X N T hk hdp hun hret
  refine wpAny_call ?_
  have hod := oneDict_is PySem.Challenge.rw_ik0011_01.row.prog w k u (.str v t) n
  k_dflt (refine' code_def ?k1 ?k2 ?k3 ?k4 ?k5 ?kA ?kF ?kK ?k6 ?k7 ?k8 ?k9 ?kB ?_ ?c2 ?c3 ?c4 ?c5; (case kA => exact rfl); (case kF => exact rfl); (case kK => assumption); (case k1 => k_asm); (case k2 => k_asm); (case k3 => k_asm); (case k4 => k_asm); (case k5 => k_asm); (case k6 => k_is); (case k7 => k_is); (case k8 => ktr_room); (case k9 => first | exact BindsTo.of_eq rfl | exact binds_K (by k_in) rfl (by k_is) rfl rfl rfl); (case c5 => decide); (case kB => exact locs rfl); (case c2 => exact rfl); (case c3 => exact rfl); (case c4 => exact rfl); k_whole; intro g' L' h' FG' F' N' B' X' T'; (try dsimp only); (try k_lift B'); (try k_fold))
  generalize hgt : s.toks + List.length _ = tk0
  have htk : 1 ≤ tk0 := by rw [← hgt]; with_unfolding_all exact Nat.le_trans (by decide : 1 ≤ 2) (Nat.le_add_left 2 s.toks)
  clear hgt
  k_steps
  rename Fr h₀ _ _ _ => kF
  rename News h₀ _ _ _ => kN
  exact hret _ [] _ _ kF kN (fun _ h => nomatch h) ⟨rfl, _, rfl⟩
end Mine
namespace Mine
/-- the greatest of a list that is not empty -/
def mx : List Int → Int
  | [] => 0
  | x :: r => r.foldl max x
theorem foldl_max_mem : ∀ (l : List Int) (x : Int), l.foldl max x = x ∨ l.foldl max x ∈ l
  | [], x => .inl rfl
  | y :: r, x => by
    rw [List.foldl_cons]
    rcases foldl_max_mem r (max x y) with h | h
    · rw [h]
      by_cases hxy : x ≤ y
      · exact .inr (by rw [Int.max_eq_right hxy]; exact List.mem_cons_self)
      · exact .inl (Int.max_eq_left (by omega))
    · exact .inr (List.mem_cons_of_mem _ h)
theorem le_foldl_max : ∀ (l : List Int) (x : Int), x ≤ l.foldl max x ∧ ∀ y ∈ l, y ≤ l.foldl max x
  | [], x => ⟨Int.le_refl _, fun _ h => nomatch h⟩
  | y :: r, x => by
    rw [List.foldl_cons]
    have h := le_foldl_max r (max x y)
    refine ⟨by omega, fun z hz => ?_⟩
    rcases List.mem_cons.mp hz with rfl | hz
    · omega
    · exact h.2 z hz
theorem mx_mem {x : Int} {r : List Int} : mx (x :: r) ∈ x :: r := by
  rcases foldl_max_mem r x with h | h
  · show r.foldl max x ∈ _; rw [h]; exact List.mem_cons_self
  · exact List.mem_cons_of_mem _ h
theorem le_mx {x : Int} {r : List Int} : ∀ y ∈ x :: r, y ≤ mx (x :: r) := by
  intro y hy
  have h := le_foldl_max r x
  rcases List.mem_cons.mp hy with rfl | hy
  · exact h.1
  · exact h.2 y hy
theorem mx_eq {l : List Int} {M : Int} (h1 : M ∈ l) (h2 : ∀ a ∈ l, a ≤ M) : M = mx l := by
  cases l with
  | nil => exact nomatch h1
  | cons x r =>
    have h3 := le_mx M h1
    have h4 := h2 _ (mx_mem (x := x) (r := r))
    omega
/-- the place of the last walker of X, r calls on, in a stretch that begins at σ -/
def thereOf (σ : Int) (X : List Int) (r : Int) : Int :=
  mx ((σ + X.length - 1) :: (rangeKs 0 (min (r + 1) X.length).toNat).map fun k => X.getD ((X.length : Int) - 1 - k).toNat 0 + 2 * k - r)
def mvStep (fs : List Int) (a b r : Int) (s : Int × List Int × List Int) (i : Nat) : Int × List Int × List Int :=
  if fs.getD i 0 = b then (s.1, s.2.1 ++ [(i : Int)], s.2.2 ++ [thereOf s.1 (s.2.1 ++ [(i : Int)]) r]) else if fs.getD i 0 = a then s else ((i : Int) + 1, [], s.2.2)
def mvSt (fs : List Int) (a b r : Int) (i : Nat) : Int × List Int × List Int := (List.range i).foldl (mvStep fs a b r) (0, [], [])
theorem mvSt_succ (fs : List Int) (a b r : Int) (i : Nat) : mvSt fs a b r (i + 1) = mvStep fs a b r (mvSt fs a b r i) i := by
  simp [mvSt, List.range_succ]
theorem mvSt_zero (fs : List Int) (a b r : Int) : mvSt fs a b r 0 = (0, [], []) := rfl
theorem mvSt_len (fs : List Int) (a b r : Int) : ∀ i, (mvSt fs a b r i).2.1.length ≤ i ∧ (mvSt fs a b r i).2.2.length ≤ i ∧ 0 ≤ (mvSt fs a b r i).1 ∧ (mvSt fs a b r i).1 ≤ i
  | 0 => by rw [mvSt_zero]; simp
  | i + 1 => by
    have h := mvSt_len fs a b r i
    rw [mvSt_succ]
    unfold mvStep
    split
    · simp; omega
    · split
      · omega
      · simp; omega
def rowOf (fs there : List Int) (a b : Int) (n : Nat) : List Int :=
  (List.range n).map fun (p : Nat) => if there.any (· == (p : Int)) = true then b else if fs.getD p 0 = b then a else fs.getD p 0
theorem rowOf_succ (fs there : List Int) (a b : Int) (n : Nat) : rowOf fs there a b (n + 1) = rowOf fs there a b n ++ [if there.any (· == (n : Int)) = true then b else if fs.getD n 0 = b then a else fs.getD n 0] := by
  simp [rowOf, List.range_succ]
theorem rowOf_len (fs there : List Int) (a b : Int) (n : Nat) : (rowOf fs there a b n).length = n := by simp [rowOf]
/-- the row r calls on, as the law reckons it -/
def moved (fs : List Int) (a b r : Int) : List Int := rowOf fs (mvSt fs a b r fs.length).2.2 a b fs.length
structure Stop (P : Prop) : Prop where
  get : P
end Mine
namespace Mine
open PySem PySem.W PyProof.Rows PySem.Spec PySem.Calls
section
variable {prog : Program} {w : World} {A : Around} {E : Value → Shared → Prop} {s : Shared} {h₀ : Heap} {L l d : Addr} {m : Str → Option Value} {news news' : List (Addr × Obj)} {us : List Value} {ns : List Int} {c : Nat} {Q : Value → Shared → Prop}
theorem append_L {k : Int} {t : Tok} (hF : Fr h₀ L s.heap m) (N : News h₀ L s.heap news) (U : Upd d (listOf us.toArray c) (listOf (us ++ [Value.int k t]).toArray (c + 1)) news news') (hi : IntsAre us ns) (hz : us.length ≤ 1000)
    (h : ∀ h', Fr h₀ L h' m → News h₀ L h' news' → IntsAre (us ++ [Value.int k t]) (ns ++ [k]) → Q .none { s with heap := h' }) : wpAny (model prog w) A (call (.builtin "list.append") [.ref d, .int k t]) Q E s := by
  have e : (us ++ [Value.int k t]).toArray = us.toArray.push (.int k t) := by simp
  rw [e] at U
  exact append_K hF N U (fun h' F' N' => h h' F' N' (hi.append (.cons k t .nil))) (by rw [List.size_toArray, PySem.sizeLine_eq]; omega)
theorem item_L {value slice : PySem.Expr} {k : Int} {u : Tok} (N : News h₀ L s.heap news) (hm : (l, listOf us.toArray c) ∈ news) (hi : IntsAre us ns) (h0 : 0 ≤ k) (h1 : k < ns.length) (hz : us.length ≤ 1000) (h : ∀ t, Q (.int (ns.getD k.toNat 0) t) s)
    (hs : subscripted slice false (.ref l) (.int k u) = operate [.ref l, .int k u] (getItem (.ref l) (.int k u)) := by with_unfolding_all rfl) :
    wpAny (model prog w) A (subscriptTail value slice (.ref l) (.int k u)) Q E s := by
  have hl : s.heap.IsList l us.toArray := ⟨_, (N _ hm).1, rfl, c, rfl⟩
  have hlen := hi.length
  have hk : k.toNat < ns.length := by omega
  obtain ⟨t, hx⟩ := hi.get k.toNat (ns.getD k.toNat 0) (by simp [hk])
  exact tail_any hl.typeIs slot_list_getitem.lookup (wpAny_getItem_list hl h0 (by omega) (by simpa using hx) (h t)) hs
theorem item_neg {value slice : PySem.Expr} {k : Int} {u : Tok} (N : News h₀ L s.heap news) (hm : (l, listOf us.toArray c) ∈ news) (hi : IntsAre us ns) (h0 : k < 0) (h1 : -(ns.length : Int) ≤ k) (hz : us.length ≤ 1000) (h : ∀ t, Q (.int (ns.getD (k + ns.length).toNat 0) t) s)
    (hs : subscripted slice false (.ref l) (.int k u) = operate [.ref l, .int k u] (getItem (.ref l) (.int k u)) := by with_unfolding_all rfl) :
    wpAny (model prog w) A (subscriptTail value slice (.ref l) (.int k u)) Q E s := by
  have hl : s.heap.IsList l us.toArray := ⟨_, (N _ hm).1, rfl, c, rfl⟩
  have hlen := hi.length
  have hk : (k + ns.length).toNat < ns.length := by omega
  obtain ⟨t, hx⟩ := hi.get (k + ns.length).toNat (ns.getD (k + ns.length).toNat 0) (by simp [hk])
  refine tail_any hl.typeIs slot_list_getitem.lookup (wpAny_getItem_list_neg hl h0 (by rw [List.size_toArray, hlen]; exact h1) (by omega) ?_ (h t)) hs
  rw [List.size_toArray, hlen]
  simpa using hx
theorem min_L {a b : Int} {t u : Tok} (hh : A.handled = none) (hF : Fr h₀ L s.heap m) (N : News h₀ L s.heap news) (h : ∀ h' t' tk, Fr h₀ L h' m → News h₀ L h' news → Q (.int (min a b) t') { s with heap := h', toks := tk }) :
    wpAny (model prog w) A (call (.builtin "min") [.int a t, .int b u]) Q E s :=
  min_two_N hh hF N fun h' tk F' N' => by
    have e : (if b < a then b else a) = min a b := by split <;> omega
    rw [e]
    exact h h' _ tk F' N'
theorem max_L {a b : Int} {t u : Tok} (hh : A.handled = none) (hF : Fr h₀ L s.heap m) (N : News h₀ L s.heap news) (h : ∀ h' t' tk, Fr h₀ L h' m → News h₀ L h' news → Q (.int (max a b) t') { s with heap := h', toks := tk }) :
    wpAny (model prog w) A (call (.builtin "max") [.int a t, .int b u]) Q E s :=
  max_two_N hh hF N fun h' tk F' N' => by
    have e : (if a < b then b else a) = max a b := by split <;> omega
    first
    | (rw [e]; exact h h' _ tk F' N')
    | (have e : (if b > a then b else a) = max a b := by split <;> omega
       rw [e]; exact h h' _ tk F' N')
theorem rep_L {v x : Int} {tv u : Tok} (hF : Fr h₀ L s.heap m) (N : News h₀ L s.heap news) (hm : (l, listOf [Value.int v tv].toArray c) ∈ news) (h0 : 0 ≤ x) (h1 : x ≤ 1000)
    (h : ∀ D zs h', Fr h₀ L h' m → News h₀ L h' ((D, listOf (List.toArray zs) 0) :: news) → (∀ p ∈ news, p.1 < D) → IntsAre zs (List.replicate x.toNat v) → Q (.ref D) { s with heap := h' }) : wpAny (model prog w) A (binaryOp .Mult (.ref l) (.int x u)) Q E s :=
  KM.mul hF N ⟨_, (N _ hm).1, rfl, c, rfl⟩ (.cons v tv .nil) (by omega) (by omega) (by simp; omega) fun D h' F' N' l1 hI _ _ _ _ _ => by
    have e : (List.replicate x.toNat [v]).flatten = List.replicate x.toNat v := by
      induction x.toNat with
      | zero => rfl
      | succ k ih => rw [List.replicate_succ, List.flatten_cons, ih, List.replicate_succ]; rfl
    rw [e] at hI
    exact h D _ h' F' N' l1 hI
theorem add_L {a b : Addr} {ws : List Value} {ms : List Int} {c2 : Nat} (hF : Fr h₀ L s.heap m) (N : News h₀ L s.heap news) (ha : (a, listOf us.toArray c) ∈ news) (hb : (b, listOf ws.toArray c2) ∈ news) (hi : IntsAre us ns) (hj : IntsAre ws ms) (hz : ns.length + ms.length ≤ 1000)
    (h : ∀ D zs h', Fr h₀ L h' m → News h₀ L h' ((D, listOf (List.toArray zs) 0) :: news) → (∀ p ∈ news, p.1 < D) → IntsAre zs (ns ++ ms) → Q (.ref D) { s with heap := h' }) : wpAny (model prog w) A (binaryOp .Add (.ref a) (.ref b)) Q E s :=
  kmk_add_ints hF N ⟨_, (N _ ha).1, rfl, c, rfl⟩ ⟨_, (N _ hb).1, rfl, c2, rfl⟩ hi hj h (by rw [PySem.sizeLine_eq]; omega)
theorem mx_L (hh : A.handled = none) (hF : Fr h₀ L s.heap m) (N : News h₀ L s.heap news) (hm : (l, listOf us.toArray c) ∈ news) (hi : IntsAre us ns) (hne : 0 < ns.length) (h : ∀ h' t tk, Fr h₀ L h' m → News h₀ L h' news → Q (.int (mx ns) t) { s with heap := h', toks := tk }) :
    wpAny (model prog w) A (call (.builtin "max") [.ref l]) Q E s :=
  kso_max hF N ⟨_, (N _ hm).1, rfl, c, rfl⟩ hi hne hh fun h' M t tk F' N' a b => by
    rw [mx_eq a b]
    exact h h' t tk F' N'
end
theorem off_addr {own nx nx' : List (Addr × Obj)} (h : TbOff own nx) (e : nx'.map (·.1) = nx.map (·.1)) : TbOff own nx' := by
  intro p hp q hq
  have h1 : q.1 ∈ nx.map (·.1) := by rw [← e]; exact List.mem_map.mpr ⟨q, hq, rfl⟩
  obtain ⟨r, hr, e2⟩ := List.mem_map.mp h1
  rw [← e2]
  exact h p hp r hr
theorem off_cons {own nx : List (Addr × Obj)} {a : Addr} {o : Obj} (ha : ∀ p ∈ own, p.1 ≠ a) (h : TbOff own nx) : TbOff own ((a, o) :: nx) := by
  intro p hp q hq
  rcases List.mem_cons.mp hq with rfl | hq
  · exact ha p hp
  · exact h p hp q hq
theorem tbEnd_intro {h₀ : Heap} {L : Addr} {J : (Str → Option Value) → List (Addr × Obj) → Prop} {own news' nx : List (Addr × Obj)} {s₁ : Shared} {h' : Heap} {tk : Nat} {m' : Str → Option Value} (hF : Fr h₀ L h' m') (N : News h₀ L h' news') (hJ : J m' nx) (h1 : ∀ p ∈ nx, p ∈ news') (h2 : ∀ p ∈ own, p ∈ news') (h3 : TbOff own nx) :
    TbEnd h₀ L J own s₁ { s₁ with heap := h', toks := tk } := ⟨h', tk, m', news', nx, rfl, hF, N, h1, h2, h3, hJ⟩
theorem off_tail {own nx : List (Addr × Obj)} {x : Addr × Obj} (h : TbOff own (x :: nx)) : TbOff own nx := fun p hp q hq => h p hp q (.tail _ hq)
theorem off_head {own nx : List (Addr × Obj)} {x : Addr × Obj} (h : TbOff own (x :: nx)) : ∀ p ∈ own, p.1 ≠ x.1 := fun p hp => h p hp x (.head _)
theorem allLt_app {d : Addr} {a b : List (Addr × Obj)} (h : AllLt d (a ++ b)) : (∀ p ∈ a, p.1 < d) ∧ ∀ p ∈ b, p.1 < d :=
  ⟨fun p hp => kst_ltOf h p (List.mem_append.mpr (.inl hp)), fun p hp => kst_ltOf h p (List.mem_append.mpr (.inr hp))⟩
end Mine
namespace Mine
open PySem PySem.W PyProof.Rows PySem.Spec PySem.Calls
local macro_rules | `(tactic| walk_at "exec For Name Call cons nil") => `(tactic| (k_here; (rename Fr _ _ _ _ => lF'); (with_unfolding_all refine' For_invVF lF' ?k1 ?k2 ?_; (case k1 => exact rfl); (case k2 => exact rfl); k_whole)))
local macro_rules | `(tactic| walk_at "pyIter ref") => `(tactic| ((with_reducible show wpAny _ _ (pyIter (Value.ref _)) (fun it s₂ => LoopAtV _ _ _ _ _ _ _ _ _ it s₂) _ _); refine Stop.get ?_))
local macro_rules | `(tactic| walk_at "eval ListComp") => `(tactic| (k_here; k_dflt (refine LCg.ListComp_U (F₀ := by k_asm) (by with_unfolding_all rfl) (by decide) (by rfl) (by decide) (by rfl) ?_)))
local macro_rules | `(tactic| walk_at "CompSrc") => `(tactic| (refine Stop.get ?_))
local macro_rules | `(tactic| walk_at "call builtin:list.append") => `(tactic| (k_here; (with_reducible show wpAny _ _ (call (Value.builtin _) [Value.ref _, Value.int _ _]) _ _ _); k_dflt (refine' append_L ?k1 ?k2 ?k3 ?k4 ?z ?_; (case k1 => k_asm); (case k2 => k_asm); (case k3 => k_upd); (case k4 => assumption); (case z => ((try simp only [List.length_append, List.length_cons, List.length_nil]); omega))); intro h' F' N' hI'; (try k_sweep)))
local macro_rules | `(tactic| walk_at "call builtin:len") => `(tactic| (k_here; (with_reducible show wpAny _ _ (call (Value.builtin "len") [Value.ref _]) _ _ _); k_dflt (refine' kst_len ?k1 ?k2 ?k3 ?k4 ?_; (case k1 => k_asm); (case k2 => k_mem); (case k3 => exact IntsAre.length (by assumption)); (case k4 => ((try simp only [List.length_append, List.length_cons, List.length_nil]); omega)); k_whole)))
local macro_rules | `(tactic| walk_at "call builtin:min") => `(tactic| (k_here; (with_reducible show wpAny _ _ (call (Value.builtin _) [Value.int _ _, Value.int _ _]) _ _ _); (with_unfolding_all refine' min_L ?k0 ?k1 ?k2 ?_; (case k0 => rfl); (case k1 => k_asm); (case k2 => k_asm)); intro h' t' tk' F' N'; (try k_sweep)))
local macro_rules | `(tactic| walk_at "call builtin:max") => `(tactic| (k_here; (with_reducible show wpAny _ _ (call (Value.builtin _) [Value.ref _]) _ _ _); (with_unfolding_all refine' mx_L ?k0 ?k1 ?k2 ?k3 ?k4 ?k5 ?_; (case k0 => rfl); (case k1 => k_asm); (case k2 => k_asm); (case k3 => k_mem); (case k4 => assumption); (case k5 => ((try simp only [List.length_append, List.length_cons, List.length_nil]); omega))); intro h' t' tk' F' N'; (try k_sweep)))
local macro_rules | `(tactic| walk_at "subscriptTail") => `(tactic| (k_here; (with_reducible show wpAny _ _ (subscriptTail _ _ (Value.ref _) (Value.int (-1 - _) _)) _ _ _); k_dflt (refine' item_neg ?k1 ?k2 ?k3 ?k4 ?k5 ?k6 ?_; (case k1 => k_asm); (case k2 => k_mem); (case k3 => assumption); (case k4 => omega); (case k5 => ((try simp only [List.length_append, List.length_cons, List.length_nil]); omega)); (case k6 => ((try simp only [List.length_append, List.length_cons, List.length_nil]); omega))); intro tIt))
def RwJ (aR aT : Nat) (l : Addr) (vs vT : List Value) (nT : Nat) (ns there : List Int) (c : Nat) (wait walk : Int) (t1 t2 : Tok) (news : List (Addr × Obj)) (i : Nat) (m : Str → Option Value) (nx : List (Addr × Obj)) : Prop :=
  ∃ (vR : List Value) (nR : Nat),
    nx = (aR, listOf vR.toArray nR) :: (aT, listOf vT.toArray nT) :: (l, listOf vs.toArray c) :: news ∧ IntsAre vR (rowOf ns there wait walk i) ∧
    (m (Str.ofString "figures") = some (.ref l) ∧ m (Str.ofString "wait") = some (.int wait t1) ∧ m (Str.ofString "walk") = some (.int walk t2) ∧ m (Str.ofString "there") = some (.ref aT) ∧ m (Str.ofString "row") = some (.ref aR))
def MvJ (L' : Nat) (o2 : Obj) (l : Addr) (vs : List Value) (ns : List Int) (c : Nat) (wait walk calls : Int) (t1 t2 : Tok) (news : List (Addr × Obj)) (i : Nat) (m : Str → Option Value) (nx : List (Addr × Obj)) : Prop :=
  ∃ (aS aT : Nat) (oS : Obj) (vS vT : List Value) (nS nT : Nat) (t0 : Tok),
    nx = (aT, listOf vT.toArray nT) :: (aS, listOf vS.toArray nS) :: (L' + 1 + 1, oS) :: (L' + 1, o2) :: (l, listOf vs.toArray c) :: news ∧
    oS.data = .cell (some (.ref aS)) ∧ IntsAre vS (mvSt ns wait walk calls i).2.1 ∧ IntsAre vT (mvSt ns wait walk calls i).2.2 ∧
    (m (Str.ofString "figures") = some (.ref l) ∧ m (Str.ofString "wait") = some (.int wait t1) ∧ m (Str.ofString "walk") = some (.int walk t2) ∧ m (Str.ofString "start") = some (.int (mvSt ns wait walk calls i).1 t0) ∧ m (Str.ofString "there") = some (.ref aT)) ∧
    (L' + 1 + 1 < aT ∧ L' + 1 + 1 < aS ∧ aS ≠ aT) ∧ (∀ p ∈ news, p.1 < aT) ∧ ∀ p ∈ news, p.1 < aS
set_option maxRecDepth 100000 in
set_option maxHeartbeats 8000000 in
theorem moved_c (w : World) (news : List (Addr × Obj)) (l : Addr) (vs : List Value) (ns : List Int) (c : Nat) (wait walk calls : Int) (t1 t2 t3 : Tok) (hi : IntsAre vs ns) (hlen : ns.length ≤ 15) (hc0 : 0 ≤ calls) (hc1 : calls ≤ 100) :
    Ct 16 128 w 47 [.ref l, .int wait t1, .int walk t2, .int calls t3] ((l, listOf vs.toArray c) :: news) (fun _ _ r tl => ∃ (a : Addr) (us : List Value) (n : Nat), r = .ref a ∧ tl = [(a, listOf us.toArray n)] ∧ IntsAre us (moved ns wait walk calls)) := by
  w_top off
  unfold Ct
  k_fill
  intro mean mg mb dp un gd cn cs a ccd cl outer A₀ base h₀ L m s Q E B F X N T hk hdp hun hret
  refine wpAny_call ?_
  k_dflt (refine' code_defC ?k1 ?k2 ?k3 ?k4 ?k5 ?kA ?kF ?kK ?k6 ?k7 ?k8 ?k9 ?kB ?kD ?_ ?c2 ?c3 ?c4; (case kA => exact rfl); (case kF => exact rfl); (case kK => assumption); (case k1 => k_asm); (case k2 => k_asm); (case k3 => k_asm); (case k4 => k_asm); (case k5 => k_asm); (case k6 => k_is); (case k7 => k_is); (case k8 => ktr_room); (case k9 => first | exact BindsTo.of_eq rfl | exact binds_K (by k_in) rfl (by k_is) rfl rfl rfl | fail "k_enter: no rule for these arguments"); (case kB => exact rfl); (case kD => decide +kernel); (case c2 => exact rfl); (case c3 => exact rfl); (case c4 => exact rfl); k_whole; intro g' L' h' tk' cells' FG' F' N' Y' B' X' T' l1; k_cells Y'; (try simp only [List.cons_append, List.nil_append] at N'); (try dsimp only); (try k_lift B'); (try k_fold))
  rename_i oS o2 dS d2
  replace d2 : o2.data = .cell (some (.int calls t3)) := d2
  have kM := kstMark
  have l2 : @LT.lt Nat _ l L' := l1 _ (.head _)
  replace l1 : ∀ p ∈ news, p.1 < L' := fun p hp => l1 p (.tail _ hp)
  have l1a : ∀ p ∈ news, p.1 < L' + 1 := fun p hp => Nat.lt_succ_of_lt (l1 p hp)
  have l1b : ∀ p ∈ news, p.1 < L' + 1 + 1 := fun p hp => Nat.lt_succ_of_lt (l1a p hp)
  k_steps
  refine ⟨?_⟩
  rename Fr _ _ _ _ => F1
  rename News _ _ _ _ => N1
  rename IsRange _ _ _ _ _ _ _ _ => R1
  rename (_ < _ ∧ _ < _ ∧ _ < _ ∧ AllLt _ _) => qS
  rename (_ < _ ∧ _ < _ ∧ _ < _ ∧ _ < _ ∧ AllLt _ _) => qT
  refine loop_R (n := ns.length) (MvJ L' o2 l vs ns c wait walk calls t1 t2 news) (by rfl) R1 (by exact small_one (by omega) (by omega) (by omega) (by omega)) (by exact rangeSize_nat _ _) F1 N1 ?hj ?turn ?done
  case hj =>
    refine ⟨_, _, _, [], [], _, _, _, rfl, by assumption, .nil, .nil, ⟨rfl, rfl, rfl, rfl, rfl⟩, ?_, ?_, ?_⟩
    · exact ⟨by omega, by omega, by omega⟩
    · exact kst_ltOf qT.2.2.2.2
    · exact kst_ltOf qS.2.2.2
  case done =>
    clear F1 N1 R1
    rintro m₁ nx h tk ⟨aS, aT, oS, vS, vT, nS, nT, t0, rfl, dS, hS, hT, ⟨m1, m2, m3, m4, m5⟩, ⟨q1, q2, q3⟩, q4, q5⟩ F₁ N₁
    replace F₁ := fr_at' [(Str.ofString "figures", .ref l), (Str.ofString "wait", .int wait t1), (Str.ofString "walk", .int walk t2), (Str.ofString "there", .ref aT)] (by simp [m1, m2, m3, m5]) F₁
    dsimp only [kstB] at F₁
    k_steps
    refine ⟨?_⟩
    rename Fr _ _ _ _ => F1
    rename News _ _ _ _ => N1
    rename IsRange _ _ _ _ _ _ _ _ => R1
    rename (_ < _ ∧ _ < _ ∧ _ < _ ∧ _ < _ ∧ _ < _ ∧ AllLt _ _) => qN
    rename_i aR ha Fa Na hb Fb Nb hc tkz tz1 tz2 tz3 hgr
    replace N1 : News g' L' hc ((aR, listOf [].toArray 0) :: (aT, listOf vT.toArray nT) :: (l, listOf vs.toArray c) :: news) := kst_newsOf N1 (by kst_anyIn)
    have hlT := hT.length
    have hlN := hi.length
    have hln := mvSt_len ns wait walk calls ns.length
    refine loop_R (n := ns.length) (RwJ aR aT l vs vT nT ns (mvSt ns wait walk calls ns.length).2.2 c wait walk t1 t2 news) (by rfl) R1 (by exact small_one (by omega) (by omega) (by omega) (by omega)) (by exact rangeSize_nat _ _) F1 N1 ?hj2 ?turn2 ?done2
    case hj2 => exact ⟨[], 0, rfl, .nil, rfl, rfl, rfl, rfl, rfl⟩
    case turn2 =>
      clear F1 N1 R1 Fa Na Fb Nb hgr
      rintro i t m₁ nx h tk own hlt hoff ⟨vR, nR, rfl, hR, ⟨m1, m2, m3, m4, m5⟩⟩ F₁ N₁
      replace F₁ := fr_at [(Str.ofString "figures", .ref l), (Str.ofString "wait", .int wait t1), (Str.ofString "walk", .int walk t2), (Str.ofString "there", .ref aT), (Str.ofString "row", .ref aR)] (by simp [m1, m2, m3, m4, m5]) F₁
      dsimp only [kstB] at F₁
      simp only [Int.zero_add] at F₁
      simp only [List.cons_append] at N₁
      have hO : OwnOff own [aR, aT, l] := fun p hp b hb => by
        have hh := hoff p hp
        simp only [List.forall_mem_cons] at hh
        simp only [List.mem_cons, List.not_mem_nil, or_false] at hb
        rcases hb with rfl | rfl | rfl
        · exact hh.1
        · exact hh.2.1
        · exact hh.2.2.1
      have hlR := hR.length
      have hlr := rowOf_len ns (mvSt ns wait walk calls ns.length).2.2 wait walk i
      have hp0 : (0 : Int) ≤ (i : Int) := by omega
      have hp1 : (i : Int) < (ns.length : Int) := by omega
      have l1z : ∀ p ∈ news, p.1 < aR := kst_ltOf qN.2.2.2.2.2
      k_steps
      · rename Fr g' _ _ _ => Fz
        rename News g' _ _ _ => Nz
        rename (List.any _ _ = true) => hw
        have e1 : rowOf ns (mvSt ns wait walk calls ns.length).2.2 wait walk (i + 1) = rowOf ns (mvSt ns wait walk calls ns.length).2.2 wait walk i ++ [walk] := by
          rw [rowOf_succ, if_pos hw]
        refine' tbEnd_intro Fz Nz ?_ ?_ ?_ ?_
        rotate_left
        · unfold RwJ; rw [e1]; refine ⟨_, nR + 1, rfl, by assumption, rfl, rfl, rfl, rfl, rfl⟩
        · kst_anyIn
        · kst_anyIn
        · exact off_addr hoff rfl
      · rename Fr g' _ _ _ => Fz
        rename News g' _ _ _ => Nz
        rename (List.any _ _ = false) => hw
        rename (ns.getD _ _ = walk) => hw2
        rw [Int.toNat_natCast] at hw2
        have e1 : rowOf ns (mvSt ns wait walk calls ns.length).2.2 wait walk (i + 1) = rowOf ns (mvSt ns wait walk calls ns.length).2.2 wait walk i ++ [wait] := by
          rw [rowOf_succ, if_neg (by rw [hw]; exact Bool.false_ne_true), if_pos hw2]
        refine' tbEnd_intro Fz Nz ?_ ?_ ?_ ?_
        rotate_left
        · unfold RwJ; rw [e1]; refine ⟨_, nR + 1, rfl, by assumption, rfl, rfl, rfl, rfl, rfl⟩
        · kst_anyIn
        · kst_anyIn
        · exact off_addr hoff rfl
      · rename Fr g' _ _ _ => Fz
        rename News g' _ _ _ => Nz
        rename (List.any _ _ = false) => hw
        rename (ns.getD _ _ ≠ walk) => hw2
        rw [Int.toNat_natCast] at hw2
        rename (IntsAre (_ ++ _) _) => hIz
        rw [Int.toNat_natCast] at hIz Nz
        have e1 : rowOf ns (mvSt ns wait walk calls ns.length).2.2 wait walk (i + 1) = rowOf ns (mvSt ns wait walk calls ns.length).2.2 wait walk i ++ [ns.getD i 0] := by
          rw [rowOf_succ, if_neg (by rw [hw]; exact Bool.false_ne_true), if_neg hw2]
        refine' tbEnd_intro Fz Nz ?_ ?_ ?_ ?_
        rotate_left
        · unfold RwJ; rw [e1]; refine ⟨_, nR + 1, rfl, hIz, rfl, rfl, rfl, rfl, rfl⟩
        · kst_anyIn
        · kst_anyIn
        · exact off_addr hoff rfl
    case done2 =>
      clear F1 N1 R1 Fa Na Fb Nb hgr
      rintro m₁ nx h tk ⟨vR, nR, rfl, hR, ⟨m1, m2, m3, m4, m5⟩⟩ F₁ N₁
      replace F₁ := fr_at' [(Str.ofString "row", .ref aR)] (by simp [m5]) F₁
      dsimp only [kstB] at F₁
      k_steps
      rename Fr h₀ _ _ _ => kF
      rename News h₀ _ _ _ => kN
      refine hret _ [(aR, listOf vR.toArray nR)] _ _ kF (kst_newsOf kN (by kst_anyIn)) ?_ ⟨aR, vR, nR, rfl, rfl, hR⟩
      intro p hp q hq
      rw [List.mem_singleton.mp hp]
      rcases List.mem_cons.mp hq with rfl | hq
      · exact qN.2.2.2.2.1
      · exact kst_ltOf qN.2.2.2.2.2 q hq
  case turn =>
    clear F1 N1 R1
    rintro i t m₁ nx h tk own hlt hoff ⟨aS, aT, oS, vS, vT, nS, nT, t0, rfl, dS, hS, hT, ⟨m1, m2, m3, m4, m5⟩, ⟨q1, q2, q3⟩, q4, q5⟩ F₁ N₁
    replace F₁ := fr_at [(Str.ofString "figures", .ref l), (Str.ofString "wait", .int wait t1), (Str.ofString "walk", .int walk t2), (Str.ofString "start", .int (mvSt ns wait walk calls i).1 t0), (Str.ofString "there", .ref aT)] (by simp [m1, m2, m3, m4, m5]) F₁
    dsimp only [kstB] at F₁
    simp only [Int.zero_add] at F₁
    simp only [List.cons_append] at N₁
    have hO : OwnOff own [aT, aS, L' + 1 + 1, L' + 1, l] := fun p hp b hb => by
      have hh := hoff p hp
      simp only [List.forall_mem_cons] at hh
      simp only [List.mem_cons, List.not_mem_nil, or_false] at hb
      rcases hb with rfl | rfl | rfl | rfl | rfl
      · exact hh.1
      · exact hh.2.1
      · exact hh.2.2.1
      · exact hh.2.2.2.1
      · exact hh.2.2.2.2.1
    have hln := mvSt_len ns wait walk calls i
    have hlS := hS.length
    have hlT := hT.length
    have hlN := hi.length
    have hp0 : (0 : Int) ≤ (i : Int) := by omega
    have hp1 : (i : Int) < (ns.length : Int) := by omega
    k_steps
    · refine ⟨?_⟩
      have hX : ((mvSt ns wait walk calls i).2.1 ++ [(i : Int)]).length = (mvSt ns wait walk calls i).2.1.length + 1 := by simp
      refine LCg.CompSrc.range (n := (min (calls + 1) (((mvSt ns wait walk calls i).2.1 ++ [(i : Int)]).length : Int)).toNat) (by rfl) (by k_asm) (by k_asm) (by assumption) (by exact small_one (by omega) (by omega) (by omega) (by omega)) (by rw [rangeSize_nat, Int.sub_zero]) (by rw [PySem.sizeLine_eq]; omega) ?_
      intro g1
      refine' kcf_range (fun k => ((mvSt ns wait walk calls i).2.1 ++ [(i : Int)]).getD ((((mvSt ns wait walk calls i).2.1 ++ [(i : Int)]).length : Int) - 1 - k).toNat 0 + 2 * k - calls) (fun k' tt I' oI' C' oC' D' m' ys' hh' tk' E' hlo' hhi' hC' hx' F' N' off' ne' hMark' => ?_) ?_
      · simp only [LCg.Off3, and_true] at off'
        k_steps
        refine kcf_el ?_ rfl rfl
        rw [show ((((mvSt ns wait walk calls i).2.1 ++ [(i : Int)]).length : Int) - 1 - k') = -1 - k' + (((mvSt ns wait walk calls i).2.1 ++ [(i : Int)]).length : Int) from by omega]
      · unfold KPfDone
        intro ys hys
        k_steps
        rename Fr g' _ _ _ => Fz
        rename News g' _ _ _ => Nz
        rename (ns.getD _ _ = walk) => hw
        rw [Int.toNat_natCast] at hw
        have e1 : mvSt ns wait walk calls (i + 1) = ((mvSt ns wait walk calls i).1, (mvSt ns wait walk calls i).2.1 ++ [(i : Int)], (mvSt ns wait walk calls i).2.2 ++ [thereOf (mvSt ns wait walk calls i).1 ((mvSt ns wait walk calls i).2.1 ++ [(i : Int)]) calls]) := by
          rw [mvSt_succ]; unfold mvStep; rw [if_pos hw]
        refine' tbEnd_intro Fz Nz ?_ ?_ ?_ ?_
        rotate_left
        · unfold MvJ; rw [e1]; refine ⟨aS, aT, oS, _, _, nS + 1, nT + 1, _, rfl, dS, by assumption, by assumption, ⟨rfl, rfl, rfl, rfl, rfl⟩, ⟨q1, q2, q3⟩, q4, q5⟩
        · kst_anyIn
        · kst_anyIn
        · exact off_addr hoff rfl
    · rename Fr g' _ _ _ => Fz
      rename News g' _ _ _ => Nz
      rename (ns.getD _ _ ≠ walk) => hw
      rename (ns.getD _ _ ≠ wait) => hw2
      rename (_ < _ ∧ _ < _ ∧ _ < _ ∧ _ < _ ∧ _ < _ ∧ AllLt _ _) => qN
      rw [Int.toNat_natCast] at hw hw2
      have e1 : mvSt ns wait walk calls (i + 1) = ((i : Int) + 1, [], (mvSt ns wait walk calls i).2.2) := by
        rw [mvSt_succ]; unfold mvStep; rw [if_neg hw, if_neg hw2]
      have hA := allLt_app qN.2.2.2.2.2
      refine' tbEnd_intro Fz Nz ?_ ?_ ?_ ?_
      rotate_left
      · unfold MvJ; rw [e1]; refine ⟨_, aT, _, [], vT, 0, nT, _, rfl, by assumption, .nil, hT, ⟨rfl, rfl, rfl, rfl, rfl⟩, ⟨q1, by omega, by omega⟩, q4, hA.1⟩
      · kst_anyIn
      · kst_anyIn
      · exact off_cons (off_head hoff) (off_cons (fun p hp => Nat.ne_of_lt (hA.2 p hp)) (off_addr (off_tail (off_tail hoff)) rfl))
    · rename Fr g' _ _ _ => Fz
      rename News g' _ _ _ => Nz
      rename (ns.getD _ _ ≠ walk) => hw
      rename (ns.getD _ _ = wait) => hw2
      rw [Int.toNat_natCast] at hw hw2
      have e1 : mvSt ns wait walk calls (i + 1) = mvSt ns wait walk calls i := by
        rw [mvSt_succ]; unfold mvStep; rw [if_neg hw, if_pos hw2]
      refine' tbEnd_intro Fz Nz ?_ ?_ ?_ ?_
      rotate_left
      · unfold MvJ; rw [e1]; refine ⟨aS, aT, oS, vS, vT, nS, nT, t0, rfl, dS, hS, hT, ⟨rfl, rfl, rfl, rfl, rfl⟩, ⟨q1, q2, q3⟩, q4, q5⟩
      · kst_anyIn
      · kst_anyIn
      · exact off_addr hoff rfl
end Mine
namespace Mine
def mostStep (a b : Int) (st : List Int) (M : Int) (k : Nat) : Int :=
  if st.getD k 0 = b ∧ 0 < ((st.take k).count a : Int) then max M (((st.take k).count a : Int) + ((st.drop (k + 1)).count b : Int)) else M
def mostOf (a b : Int) (st : List Int) (M : Int) (n : Nat) : Int := (List.range n).foldl (mostStep a b st) M
theorem mostOf_succ (a b : Int) (st : List Int) (M : Int) (n : Nat) : mostOf a b st M (n + 1) = mostStep a b st (mostOf a b st M n) n := by
  simp [mostOf, List.range_succ]
def sortSt (a b : Int) (st : List Int) : List Int := List.replicate (st.count b) b ++ List.replicate (st.count a) a
def stStep (a b : Int) (s : List Int × Int × List Int) (x : Int) : List Int × Int × List Int :=
  if x = a ∨ x = b then (s.1, s.2.1, s.2.2 ++ [x]) else (s.1 ++ sortSt a b s.2.2 ++ [x], mostOf a b s.2.2 s.2.1 s.2.2.length, [])
def stSt (a b : Int) (fs : List Int) : List Int × Int × List Int := fs.foldl (stStep a b) ([], 0, [])
def settledRow (a b : Int) (fs : List Int) : List Int := (stSt a b (fs ++ [-1])).1.take ((stSt a b (fs ++ [-1])).1.length - 1)
def settledMost (a b : Int) (fs : List Int) : Int := (stSt a b (fs ++ [-1])).2.1
theorem stSt_snoc (a b : Int) (fs : List Int) (x : Int) : stSt a b (fs ++ [x]) = stStep a b (stSt a b fs) x := by simp [stSt]
theorem count_two {a b : Int} (h : a ≠ b) : ∀ st : List Int, st.count b + st.count a ≤ st.length
  | [] => by simp
  | x :: r => by
    have ih := count_two h r
    rw [List.count_cons, List.count_cons, List.length_cons]
    by_cases h1 : x = a
    · have h2 : x ≠ b := fun e => h (h1 ▸ e)
      simp [h1, h]; omega
    · by_cases h2 : x = b
      · subst h2; simp [h1]; omega
      · simp [h1, h2]; omega
theorem sortSt_len {a b : Int} (h : a ≠ b) (st : List Int) : (sortSt a b st).length ≤ st.length := by
  have := count_two h st
  simp [sortSt]; omega
theorem stSt_len {a b : Int} (h : a ≠ b) : ∀ (k : Nat) (fs : List Int), fs.length = k → (stSt a b fs).1.length + (stSt a b fs).2.2.length ≤ k := by
  intro k
  induction k with
  | zero => intro fs h; have : fs = [] := List.length_eq_zero_iff.mp h; subst this; simp [stSt]
  | succ k ih =>
    intro fs hf
    obtain ⟨r, x, rfl⟩ : ∃ r f, fs = r ++ [f] := ⟨fs.dropLast, fs.getLast (by intro e; simp [e] at hf), (List.dropLast_concat_getLast _).symm⟩
    have h1 := ih r (by simpa using hf)
    rw [stSt_snoc]
    unfold stStep
    split
    · simp; omega
    · have := sortSt_len h (stSt a b r).2.2
      simp; omega
end Mine
namespace Mine
open PySem PySem.W PyProof.Rows PySem.Spec PySem.Calls
local macro_rules | `(tactic| walk_at "exec For Name Call cons nil") => `(tactic| (k_here; (rename Fr _ _ _ _ => lF'); (with_unfolding_all refine' For_invVF lF' ?k1 ?k2 ?_; (case k1 => exact rfl); (case k2 => exact rfl); k_whole)))
local macro_rules | `(tactic| walk_at "exec For Name BinOp cons nil") => `(tactic| (k_here; (rename Fr _ _ _ _ => lF'); (with_unfolding_all refine' For_invVF lF' ?k1 ?k2 ?_; (case k1 => exact rfl); (case k2 => exact rfl); k_whole)))
local macro_rules | `(tactic| walk_at "pyIter ref") => `(tactic| ((with_reducible show wpAny _ _ (pyIter (Value.ref _)) (fun it s₂ => LoopAtV _ _ _ _ _ _ _ _ _ it s₂) _ _); refine Stop.get ?_))
local macro_rules | `(tactic| walk_at "call builtin:list.append") => `(tactic| (k_here; (with_reducible show wpAny _ _ (call (Value.builtin _) [Value.ref _, Value.int _ _]) _ _ _); k_dflt (refine' append_L ?k1 ?k2 ?k3 ?k4 ?z ?_; (case k1 => k_asm); (case k2 => k_asm); (case k3 => k_upd); (case k4 => assumption); (case z => ((try simp only [List.length_append, List.length_cons, List.length_nil]); omega))); intro h' F' N' hI'; (try k_sweep)))
local macro_rules | `(tactic| walk_at "call builtin:len") => `(tactic| (k_here; (with_reducible show wpAny _ _ (call (Value.builtin "len") [Value.ref _]) _ _ _); k_dflt (refine' kst_len ?k1 ?k2 ?k3 ?k4 ?_; (case k1 => k_asm); (case k2 => k_mem); (case k3 => exact IntsAre.length (by assumption)); (case k4 => ((try simp only [List.length_append, List.length_cons, List.length_nil]); omega)); k_whole)))
local macro_rules | `(tactic| walk_at "call builtin:max") => `(tactic| (k_here; (with_reducible show wpAny _ _ (call (Value.builtin _) [Value.int _ _, Value.int _ _]) _ _ _); (with_unfolding_all refine' max_L ?k0 ?k1 ?k2 ?_; (case k0 => rfl); (case k1 => k_asm); (case k2 => k_asm)); intro h' t' tk' F' N'; (try k_sweep)))
local macro_rules | `(tactic| walk_at "binaryOp Mult ref int") => `(tactic| (k_here; (with_reducible show wpAny _ _ (binaryOp Operator.Mult (Value.ref _) (Value.int _ _)) _ _ _); k_dflt (refine' rep_L ?k1 ?k2 ?k3 ?k4 ?k5 ?_; (case k1 => k_asm); (case k2 => k_asm); (case k3 => k_mem); (case k4 => omega); (case k5 => omega)); intro D' z' h' F' N' l1 hI'; (try k_lt l1); (try k_sweep)))
local macro_rules | `(tactic| walk_at "binaryOp Add ref ref") => `(tactic| (k_here; (with_reducible show wpAny _ _ (binaryOp _ (Value.ref _) (Value.ref _)) _ _ _); k_dflt (refine' add_L ?k1 ?k2 ?k3 ?k4 ?k5 ?k6 ?k7 ?_; (case k1 => k_asm); (case k2 => k_asm); (case k3 => k_mem); (case k4 => k_mem); (case k5 => first | assumption | exact IntsAre.cons _ _ IntsAre.nil); (case k6 => first | assumption | exact IntsAre.cons _ _ IntsAre.nil); (case k7 => ((try simp only [List.length_append, List.length_replicate, List.length_cons, List.length_nil]); omega))); intro D' z' h' F' N' l1 hI'; (try k_lt l1); (try k_sweep)))
def StJ (l aF : Nat) (vs zs : List Value) (ns : List Int) (c cz : Nat) (wait walk : Int) (t1 t2 : Tok) (news : List (Addr × Obj)) (i : Nat) (m : Str → Option Value) (nx : List (Addr × Obj)) : Prop :=
  ∃ (aS aR : Nat) (vS vR : List Value) (nS nR : Nat) (tM : Tok),
    nx = (aS, listOf vS.toArray nS) :: (aR, listOf vR.toArray nR) :: (aF, listOf zs.toArray cz) :: (l, listOf vs.toArray c) :: news ∧
    IntsAre vR (stSt wait walk ((ns ++ [-1]).take i)).1 ∧ IntsAre vS (stSt wait walk ((ns ++ [-1]).take i)).2.2 ∧
    (m (Str.ofString "wait") = some (.int wait t1) ∧ m (Str.ofString "walk") = some (.int walk t2) ∧ m (Str.ofString "row") = some (.ref aR) ∧ m (Str.ofString "most") = some (.int (stSt wait walk ((ns ++ [-1]).take i)).2.1 tM) ∧ m (Str.ofString "stretch") = some (.ref aS)) ∧
    (aS ≠ aR ∧ aS ≠ aF ∧ aS ≠ l) ∧ ∀ p ∈ news, p.1 < aS
def InJ (aS aR aF l : Nat) (vS vR zs vs : List Value) (nS nR cz c : Nat) (S : List Int) (M n wait walk : Int) (t1 t2 t : Tok) (news : List (Addr × Obj)) (k : Nat) (m : Str → Option Value) (nx : List (Addr × Obj)) : Prop :=
  ∃ (tM : Tok), nx = (aS, listOf vS.toArray nS) :: (aR, listOf vR.toArray nR) :: (aF, listOf zs.toArray cz) :: (l, listOf vs.toArray c) :: news ∧
    (m (Str.ofString "wait") = some (.int wait t1) ∧ m (Str.ofString "walk") = some (.int walk t2) ∧ m (Str.ofString "row") = some (.ref aR) ∧ m (Str.ofString "most") = some (.int (mostOf wait walk S M k) tM) ∧ m (Str.ofString "stretch") = some (.ref aS) ∧ m (Str.ofString "figure") = some (.int n t))
set_option maxRecDepth 100000 in
set_option maxHeartbeats 8000000 in
theorem settled_c (w : World) (news : List (Addr × Obj)) (l : Addr) (vs : List Value) (ns : List Int) (c : Nat) (wait walk : Int) (t1 t2 : Tok) (hab : wait ≠ walk) (hi : IntsAre vs ns) (hlen : ns.length ≤ 15) :
    Ct 16 128 w 54 [.ref l, .int wait t1, .int walk t2] ((l, listOf vs.toArray c) :: news) (fun _ _ r tl => ∃ (aT aL : Addr) (us : List Value) (tM : Tok), r = .ref aT ∧ tl = [(aT, { cls := .type "tuple", data := .seq #[.ref aL, .int (settledMost wait walk ns) tM] }), (aL, listOf us.toArray 0)] ∧ IntsAre us (settledRow wait walk ns)) := by
  w_top off
  unfold Ct
  k_fill
  intro mean mg mb dp un gd cn cs a ccd cl outer A₀ base h₀ L m s Q E B F X N T hk hdp hun hret
  refine wpAny_call ?_
  k_dflt (refine' code_def ?k1 ?k2 ?k3 ?k4 ?k5 ?kA ?kF ?kK ?k6 ?k7 ?k8 ?k9 ?kB ?_ ?c2 ?c3 ?c4 ?c5; (case kA => exact rfl); (case kF => exact rfl); (case kK => assumption); (case k1 => k_asm); (case k2 => k_asm); (case k3 => k_asm); (case k4 => k_asm); (case k5 => k_asm); (case k6 => k_is); (case k7 => k_is); (case k8 => ktr_room); (case k9 => exact BindsTo.of_eq rfl); (case c5 => decide); (case kB => exact locs rfl); (case c2 => exact rfl); (case c3 => exact rfl); (case c4 => exact rfl); k_whole; intro g' L' h' FG' F' N' B' X' T'; (try dsimp only); (try k_lift B'); (try k_fold))
  have kM := kstMark
  k_steps
  refine ⟨?_⟩
  rename Fr _ _ _ _ => F1
  rename News _ _ _ _ => N1
  rename_i aR hb1 qR hb2 tkb hb3 aS hb4 qS hb5 aM hb6 qM aF zs hc hz qF
  replace N1 : News g' L' hc ((aS, listOf [].toArray 0) :: (aR, listOf [].toArray 0) :: (aF, listOf zs.toArray 0) :: (l, listOf vs.toArray c) :: news) := kst_newsOf N1 (by kst_anyIn)
  have hlZ := hz.length
  have hlN := hi.length
  refine loop_L (l := aF) (StJ l aF vs zs ns c 0 wait walk t1 t2 news) (by rfl) (by k_mem) hz ?hJl F1 N1 ?hj ?turn ?done
  case hJl =>
    rintro i m nx ⟨aS, aR, vS, vR, nS, nR, tM, rfl, _⟩
    exact .tail _ (.tail _ (.head _))
  case hj => exact ⟨_, _, [], [], _, _, _, rfl, .nil, .nil, ⟨rfl, rfl, rfl, rfl, rfl⟩, ⟨by omega, by omega, by omega⟩, kst_ltOf qS.2.2⟩
  case done =>
    clear F1 N1
    rintro m₁ nx h tk ⟨aS, aR, vS, vR, nS, nR, tM, rfl, hR, hS, ⟨m1, m2, m3, m4, m5⟩, ⟨q1, q2, q3⟩, q4⟩ F₁ N₁
    have htk : (ns ++ [-1]).take (ns ++ [-1]).length = ns ++ [-1] := List.take_length
    rw [htk] at hR hS m4
    have hln := stSt_len hab _ (ns ++ [-1]) rfl
    have hlz : (ns ++ [-1]).length ≤ 16 := by simp; omega
    generalize hst : stSt wait walk (ns ++ [-1]) = st at hR hS m4 hln
    obtain ⟨R, M, S⟩ := st
    dsimp only at hR hS m4 hln
    have hlR := hR.length
    replace F₁ := fr_at' [(Str.ofString "row", .ref aR), (Str.ofString "most", .int M tM)] (by simp [m3, m4]) F₁
    dsimp only [kstB] at F₁
    k_steps
    rename Fr h₀ _ _ _ => kF
    rename News h₀ _ _ _ => kN
    rename IntsAre _ (List.take _ R) => hIR
    rename (_ < _ ∧ _ < _ ∧ _ < _ ∧ _ < _ ∧ AllLt _ _) => qR2
    rename (_ < _ ∧ _ < _ ∧ _ < _ ∧ _ < _ ∧ _ < _ ∧ AllLt _ _) => qT2
    rename_i aL us hx1 hx2 hx3 aT hx4 hx5 hx6 hx7 hx8
    refine hret _ [(aT, { cls := .type "tuple", data := .seq #[.ref aL, .int M tM] }), (aL, listOf (List.toArray us) 0)] _ _ kF (kst_newsOf kN (by kst_anyIn)) ?_ ⟨aT, aL, us, tM, rfl, ?_, ?_⟩
    · intro p hp q hq
      simp only [List.mem_cons, List.not_mem_nil, or_false] at hp hq
      rcases hp with rfl | rfl
      · rcases hq with rfl | hq
        · exact qT2.2.2.2.2.1
        · exact kst_ltOf qT2.2.2.2.2.2 q hq
      · rcases hq with rfl | hq
        · exact qR2.2.2.2.1
        · exact kst_ltOf qR2.2.2.2.2 q hq
    · unfold settledMost; rw [hst]
    · unfold settledRow; rw [hst]; exact hIR
  case turn =>
    clear F1 N1
    rintro i n t m₁ nx h tk own hn hoff ⟨aS, aR, vS, vR, nS, nR, tM, rfl, hR, hS, ⟨m1, m2, m3, m4, m5⟩, ⟨q1, q2, q3⟩, q4⟩ F₁ N₁
    replace F₁ := fr_at [(Str.ofString "wait", .int wait t1), (Str.ofString "walk", .int walk t2), (Str.ofString "row", .ref aR), (Str.ofString "most", .int (stSt wait walk ((ns ++ [-1]).take i)).2.1 tM), (Str.ofString "stretch", .ref aS)] (by simp [m1, m2, m3, m4, m5]) F₁
    dsimp only [kstB] at F₁
    simp only [List.cons_append] at N₁
    have hO : OwnOff own [aS, aR, aF, l] := fun p hp b hb => by
      have hh := hoff p hp
      simp only [List.forall_mem_cons] at hh
      simp only [List.mem_cons, List.not_mem_nil, or_false] at hb
      rcases hb with rfl | rfl | rfl | rfl
      · exact hh.1
      · exact hh.2.1
      · exact hh.2.2.1
      · exact hh.2.2.2.1
    have hln := stSt_len hab _ ((ns ++ [-1]).take i) rfl
    have hlz : ((ns ++ [-1]).take i).length ≤ 16 := by simp; omega
    have htk : (ns ++ [-1]).take (i + 1) = (ns ++ [-1]).take i ++ [n] := by rw [List.take_add_one, hn]; rfl
    generalize hst : stSt wait walk ((ns ++ [-1]).take i) = st at hR hS m4 hln F₁
    obtain ⟨R, M, S⟩ := st
    dsimp only at hR hS m4 hln F₁
    have hlS := hS.length
    have hlR := hR.length
    k_steps
    · rename Fr g' _ _ _ => Fz
      rename News g' _ _ _ => Nz
      rename (List.any _ _ = true) => hw
      have hw2 : n = wait ∨ n = walk := by simp at hw; omega
      have e1 : stSt wait walk ((ns ++ [-1]).take (i + 1)) = (R, M, S ++ [n]) := by
        rw [htk, stSt_snoc, hst]; unfold stStep; rw [if_pos hw2]
      refine' tbEnd_intro Fz Nz ?_ ?_ ?_ ?_
      rotate_left
      · unfold StJ; rw [e1]; refine ⟨aS, aR, _, vR, nS + 1, nR, tM, rfl, hR, by assumption, ⟨rfl, rfl, rfl, rfl, rfl⟩, ⟨q1, q2, q3⟩, q4⟩
      · kst_anyIn
      · kst_anyIn
      · exact off_addr hoff rfl
    · refine ⟨?_⟩
      rename Fr _ _ _ _ => F1
      rename News _ _ _ _ => N1
      rename IsRange _ _ _ _ _ _ _ _ => R1
      rename (List.any _ _ = false) => hw
      have hw1 : n ≠ wait ∧ n ≠ walk := by simp at hw; omega
      rename_i aW hb1 Fb Nb qW hb2 tkb u1 u2 u3 hgr
      replace N1 : News g' _ hb2 ((aS, listOf vS.toArray nS) :: (aR, listOf vR.toArray nR) :: (aF, listOf zs.toArray 0) :: (l, listOf vs.toArray c) :: (news ++ own)) := kst_newsOf N1 (by kst_anyIn)
      refine loop_R (n := S.length) (InJ aS aR aF l vS vR zs vs nS nR 0 c S M n wait walk t1 t2 t (news ++ own)) (by rfl) R1 (by exact small_one (by omega) (by omega) (by omega) (by omega)) (by exact rangeSize_nat _ _) F1 N1 ?hj2 ?turn2 ?done2
      case hj2 => exact ⟨_, rfl, rfl, rfl, rfl, rfl, rfl, rfl⟩
      case done2 =>
        clear F1 N1 R1 Fb Nb hgr
        rintro m₂ nx2 h2 tkk ⟨tM2, rfl, ⟨p1, p2, p3, p4, p5, p6⟩⟩ F₂ N₂
        replace F₂ := fr_at' [(Str.ofString "wait", .int wait t1), (Str.ofString "walk", .int walk t2), (Str.ofString "row", .ref aR), (Str.ofString "most", .int (mostOf wait walk S M S.length) tM2), (Str.ofString "stretch", .ref aS), (Str.ofString "figure", .int n t)] (by simp [p1, p2, p3, p4, p5, p6]) F₂
        dsimp only [kstB] at F₂
        have hct := count_two hab S
        k_steps
        rename Fr g' _ _ _ => Fz
        rename News g' _ _ _ => Nz
        rename_i aR2 zR hx1 Fx Nx hIR qR2 hx2 tkx aS2 hx3 qS2 hx4
        have hIR' : IntsAre zR (R ++ sortSt wait walk S ++ [n]) := by
          unfold sortSt
          rw [← List.append_assoc]
          simpa only [Int.toNat_natCast] using hIR
        have e1 : stSt wait walk ((ns ++ [-1]).take (i + 1)) = (R ++ sortSt wait walk S ++ [n], mostOf wait walk S M S.length, []) := by
          rw [htk, stSt_snoc, hst]; unfold stStep; rw [if_neg (by rintro (h | h); exact hw1.1 h; exact hw1.2 h)]
        have hA := allLt_app qS2.2.2.2.2.2.2.2.2.2.2.2.2
        have hB := allLt_app qR2.2.2.2.2.2.2.2.2.2.2.2
        refine' tbEnd_intro Fz Nz ?_ ?_ ?_ ?_
        rotate_left
        · unfold StJ; rw [e1]; exact ⟨aS2, aR2, [], zR, 0, 0, tM2, rfl, hIR', .nil, ⟨rfl, rfl, rfl, rfl, rfl⟩, ⟨by omega, by omega, by omega⟩, hA.1⟩
        · kst_anyIn
        · kst_anyIn
        · exact off_cons (fun p hp => Nat.ne_of_lt (hA.2 p hp)) (off_cons (fun p hp => Nat.ne_of_lt (hB.2 p hp)) (off_addr (off_tail (off_tail hoff)) rfl))
      case turn2 =>
        clear F1 N1 R1 Fb Nb hgr
        rintro k tk2 m₂ nx2 h2 tkk own2 hlt2 hoff2 ⟨tM2, rfl, ⟨p1, p2, p3, p4, p5, p6⟩⟩ F₂ N₂
        replace F₂ := fr_at [(Str.ofString "wait", .int wait t1), (Str.ofString "walk", .int walk t2), (Str.ofString "row", .ref aR), (Str.ofString "most", .int (mostOf wait walk S M k) tM2), (Str.ofString "stretch", .ref aS), (Str.ofString "figure", .int n t)] (by simp [p1, p2, p3, p4, p5, p6]) F₂
        dsimp only [kstB] at F₂
        simp only [Int.zero_add] at F₂
        simp only [List.cons_append] at N₂
        have hp0 : (0 : Int) ≤ (k : Int) := by omega
        have hp1 : (k : Int) < (S.length : Int) := by omega
        have hk1 : ((k : Int)).toNat = k := Int.toNat_natCast k
        have hk2 : ((k : Int) + 1).toNat = k + 1 := by omega
        k_steps
        · rename Fr g' _ _ _ => Fz
          rename News g' _ _ _ => Nz
          rename (S.getD _ _ = walk) => ha
          rename (0 < Int.ofNat (List.count _ _)) => hb
          rw [hk1] at ha hb
          simp only [hk1, hk2] at Fz
          have e1 : mostOf wait walk S M (k + 1) = max (mostOf wait walk S M k) (((S.take k).count wait : Int) + ((S.drop (k + 1)).count walk : Int)) := by
            rw [mostOf_succ]; unfold mostStep; rw [if_pos ⟨ha, hb⟩]
          refine' tbEnd_intro Fz Nz ?_ ?_ ?_ ?_
          rotate_left
          · unfold InJ; rw [e1]; exact ⟨_, rfl, ⟨rfl, rfl, rfl, rfl, rfl, rfl⟩⟩
          · kst_anyIn
          · kst_anyIn
          · exact off_addr hoff2 rfl
        · rename Fr g' _ _ _ => Fz
          rename News g' _ _ _ => Nz
          rename (S.getD _ _ = walk) => ha
          rename (¬ 0 < Int.ofNat (List.count _ _)) => hb
          rw [hk1] at ha hb
          have e1 : mostOf wait walk S M (k + 1) = mostOf wait walk S M k := by
            rw [mostOf_succ]; unfold mostStep; rw [if_neg (fun h => hb h.2)]
          refine' tbEnd_intro Fz Nz ?_ ?_ ?_ ?_
          rotate_left
          · unfold InJ; rw [e1]; exact ⟨_, rfl, ⟨rfl, rfl, rfl, rfl, rfl, rfl⟩⟩
          · kst_anyIn
          · kst_anyIn
          · exact off_addr hoff2 rfl
        · rename Fr g' _ _ _ => Fz
          rename News g' _ _ _ => Nz
          rename (S.getD _ _ ≠ walk) => ha
          rw [hk1] at ha
          have e1 : mostOf wait walk S M (k + 1) = mostOf wait walk S M k := by
            rw [mostOf_succ]; unfold mostStep; rw [if_neg (fun h => ha h.1)]
          refine' tbEnd_intro Fz Nz ?_ ?_ ?_ ?_
          rotate_left
          · unfold InJ; rw [e1]; exact ⟨_, rfl, ⟨rfl, rfl, rfl, rfl, rfl, rfl⟩⟩
          · kst_anyIn
          · kst_anyIn
          · exact off_addr hoff2 rfl
end Mine
namespace Mine
def swp (a b : Int) : List Int → List Int
  | [] => []
  | [x] => [x]
  | x :: y :: r => if x = a ∧ y = b then b :: a :: swp a b r else x :: swp a b (y :: r)
def swn (a b : Int) : Nat → List Int → List Int
  | 0, fs => fs
  | n + 1, fs => swp a b (swn a b n fs)
def Figs (fs : List Int) : Prop := fs.length ≤ 15 ∧ ∀ f ∈ fs, 0 ≤ f ∧ f < 16
theorem swp_len (a b : Int) : ∀ (k : Nat) (fs : List Int), fs.length ≤ k → (swp a b fs).length = fs.length
  | 0, [], _ => rfl
  | _ + 1, [], _ => rfl
  | _ + 1, [_], _ => rfl
  | k + 1, x :: y :: r, h => by
    unfold swp
    simp only [List.length_cons] at h
    split
    · simp [swp_len a b k r (by omega)]
    · have := swp_len a b k (y :: r) (by simp; omega)
      simp only [List.length_cons] at this ⊢
      omega
theorem swp_mem (a b : Int) : ∀ (k : Nat) (fs : List Int), fs.length ≤ k → ∀ f ∈ swp a b fs, f ∈ fs
  | 0, [], _ => fun f h => h
  | _ + 1, [], _ => fun f h => h
  | _ + 1, [_], _ => fun f h => h
  | k + 1, x :: y :: r, h => by
    intro f hf
    unfold swp at hf
    simp only [List.length_cons] at h
    split at hf
    · rename_i e
      rcases List.mem_cons.mp hf with rfl | hf
      · exact .tail _ (e.2 ▸ .head _)
      · rcases List.mem_cons.mp hf with rfl | hf
        · exact e.1 ▸ .head _
        · exact .tail _ (.tail _ (swp_mem a b k r (by omega) f hf))
    · rcases List.mem_cons.mp hf with rfl | hf
      · exact .head _
      · exact .tail _ (swp_mem a b k (y :: r) (by simp; omega) f hf)
theorem Figs.swp {a b : Int} {fs : List Int} (h : Figs fs) : Figs (swp a b fs) :=
  ⟨by rw [swp_len a b _ fs (Nat.le_refl _)]; exact h.1, fun f hf => h.2 f (swp_mem a b _ fs (Nat.le_refl _) f hf)⟩
theorem Figs.swn {a b : Int} {fs : List Int} (h : Figs fs) : ∀ n, Figs (swn a b n fs)
  | 0 => h
  | n + 1 => (Figs.swn h n).swp
end Mine
namespace Mine
theorem swp_two (a b x y : Int) (r : List Int) : swp a b (x :: y :: r) = if x = a ∧ y = b then b :: a :: swp a b r else x :: swp a b (y :: r) := by rw [swp]
theorem swp_app {a b : Int} : ∀ (k : Nat) (Z Y : List Int), Z.length ≤ k → ¬ (Z.getLast? = some a ∧ Y.head? = some b) → swp a b (Z ++ Y) = swp a b Z ++ swp a b Y
  | _, [], Y, _, _ => rfl
  | _, [x], [], _, _ => rfl
  | _, [x], y :: Y, _, h => by
    have hn : ¬ (x = a ∧ y = b) := fun e => h (by simp [e.1, e.2])
    show swp a b (x :: y :: Y) = x :: swp a b (y :: Y)
    rw [swp_two, if_neg hn]
  | 0, x :: y :: r, Y, hk, _ => by simp at hk
  | k + 1, x :: y :: r, Y, hk, h => by
    simp only [List.length_cons] at hk
    show swp a b (x :: y :: (r ++ Y)) = _
    rw [swp_two, swp_two]
    split
    · rw [swp_app k r Y (by omega) (fun e => h ⟨by rw [List.getLast?_cons_cons]; cases r with
        | nil => simp at e
        | cons z r' => rw [List.getLast?_cons_cons]; exact e.1, e.2⟩)]
      rfl
    · have := swp_app k (y :: r) Y (by simp; omega) (fun e => h ⟨by rw [List.getLast?_cons_cons]; exact e.1, e.2⟩)
      rw [List.cons_append] at this
      rw [this]
      rfl
theorem swp_sep {a b : Int} {Z Y : List Int} (h : Z.getLast? ≠ some a) : swp a b (Z ++ Y) = swp a b Z ++ swp a b Y := swp_app _ Z Y (Nat.le_refl _) fun e => h e.1
theorem swp_snoc {a b c : Int} (h : c ≠ b) (Z : List Int) : swp a b (Z ++ [c]) = swp a b Z ++ [c] := swp_app _ Z [c] (Nat.le_refl _) fun e => h (by simpa using e.2)
theorem swp_ab {a b : Int} (hab : a ≠ b) (Z : List Int) : swp a b (Z ++ [a, b]) = swp a b Z ++ [b, a] := by
  rw [swp_app _ Z [a, b] (Nat.le_refl _) fun e => hab (by simpa using e.2)]
  simp [swp]
theorem swp_rep {a b : Int} (hab : a ≠ b) (Z : List Int) : ∀ m, swp a b (Z ++ List.replicate m a) = swp a b Z ++ List.replicate m a
  | 0 => by simp
  | m + 1 => by
    rw [List.replicate_succ', ← List.append_assoc, swp_snoc hab, swp_rep hab Z m, List.append_assoc]
theorem swn_snoc {a b c : Int} (h : c ≠ b) (Z : List Int) : ∀ n, swn a b n (Z ++ [c]) = swn a b n Z ++ [c]
  | 0 => rfl
  | n + 1 => by
    show swp a b (swn a b n (Z ++ [c])) = swp a b (swn a b n Z) ++ [c]
    rw [swn_snoc h Z n, swp_snoc h]
theorem swn_len (a b : Int) (fs : List Int) : ∀ n, (swn a b n fs).length = fs.length
  | 0 => rfl
  | n + 1 => by
    show (swp a b (swn a b n fs)).length = _
    rw [swp_len a b _ _ (Nat.le_refl _), swn_len a b fs n]
def naLen (a : Int) : List Int → Nat
  | [] => 0
  | x :: r => if naLen a r = 0 ∧ x = a then 0 else naLen a r + 1
theorem naLen_le (a : Int) : ∀ R, naLen a R ≤ R.length
  | [] => Nat.le_refl _
  | x :: r => by
    have := naLen_le a r
    unfold naLen
    rw [List.length_cons]
    split <;> omega
theorem naLen_split (a : Int) : ∀ R, R = R.take (naLen a R) ++ List.replicate (R.length - naLen a R) a ∧ (R.take (naLen a R)).getLast? ≠ some a
  | [] => by simp [naLen]
  | x :: r => by
    have ih := naLen_split a r
    unfold naLen
    split
    · rename_i h
      rw [h.1] at ih
      have e : r = List.replicate r.length a := by simpa using ih.1
      refine ⟨?_, by simp⟩
      rw [h.2, List.take_zero, List.nil_append, List.length_cons, Nat.sub_zero, List.replicate_succ, ← e]
    · rename_i h
      refine ⟨?_, ?_⟩
      · rw [List.take_succ_cons, List.length_cons, Nat.add_sub_add_right, List.cons_append, ← ih.1]
      · rw [List.take_succ_cons]
        cases hr : r.take (naLen a r) with
        | nil =>
          have h0 : naLen a r = 0 := by
            rcases List.take_eq_nil_iff.mp hr with h | h
            · exact h
            · rw [h]; rfl
          intro e
          exact h ⟨h0, by simpa using e⟩
        | cons y q =>
          rw [List.getLast?_cons_cons, ← hr]
          exact ih.2
theorem naLen_rep (a : Int) : ∀ m, naLen a (List.replicate m a) = 0
  | 0 => rfl
  | m + 1 => by rw [List.replicate_succ, naLen, naLen_rep a m]; simp
theorem naLen_app {a : Int} : ∀ (P : List Int) (m : Nat), P.getLast? ≠ some a → naLen a (P ++ List.replicate m a) = P.length
  | [], m, _ => naLen_rep a m
  | [x], m, h => by
    show naLen a (x :: List.replicate m a) = 1
    rw [naLen, naLen_rep]
    simp at h
    simp [h]
  | x :: y :: P, m, h => by
    have := naLen_app (y :: P) m (by rwa [List.getLast?_cons_cons] at h)
    rw [List.cons_append, naLen, this]
    simp
theorem naLen_app_le (a : Int) : ∀ (P : List Int) (m : Nat), naLen a (P ++ List.replicate m a) ≤ P.length
  | [], m => by rw [List.nil_append, naLen_rep]; exact Nat.zero_le _
  | x :: P, m => by
    have := naLen_app_le a P m
    rw [List.cons_append, naLen, List.length_cons]
    split <;> omega
theorem naLen_snoc {a c : Int} (h : c ≠ a) (Z : List Int) : naLen a (Z ++ [c]) = Z.length + 1 := by
  have := naLen_app (a := a) (Z ++ [c]) 0 (by simpa using h)
  simpa using this
theorem naLen_a {a : Int} (Z : List Int) : naLen a (Z ++ [a]) = naLen a Z := by
  have h := naLen_split a Z
  have e : Z ++ [a] = Z.take (naLen a Z) ++ List.replicate (Z.length - naLen a Z + 1) a := by
    rw [List.replicate_succ', ← List.append_assoc, ← h.1]
  rw [e, naLen_app _ _ h.2, List.length_take]
  have := naLen_le a Z
  omega
theorem naLen_swp {a b : Int} (hab : a ≠ b) (R : List Int) : naLen a (swp a b R) ≤ naLen a R ∧ naLen a R ≤ naLen a (swp a b R) + 1 := by
  have h := naLen_split a R
  have hle := naLen_le a R
  generalize hP : R.take (naLen a R) = P at h
  generalize R.length - naLen a R = m at h
  have hPl : P.length = naLen a R := by rw [← hP, List.length_take]; omega
  have hs : swp a b R = swp a b P ++ List.replicate m a := by rw [h.1, swp_rep hab]
  refine ⟨?_, ?_⟩
  · rw [hs]
    have := naLen_app_le a (swp a b P) m
    rw [swp_len a b _ _ (Nat.le_refl _)] at this
    omega
  · rw [hs, ← hPl]
    clear hs hPl hP hle
    have h2 := h.2
    clear h
    rcases List.eq_nil_or_concat P with rfl | ⟨P', c, rfl⟩
    · simp
    · rw [List.concat_eq_append] at h2 ⊢
      have hc : c ≠ a := by simpa using h2
      by_cases hcb : c = b
      · subst hcb
        rcases List.eq_nil_or_concat P' with rfl | ⟨P'', d, rfl⟩
        · show 1 ≤ _ + 1
          omega
        · rw [List.concat_eq_append]
          by_cases hd : d = a
          · subst hd
            have e : P'' ++ [d] ++ [c] = P'' ++ [d, c] := by simp
            rw [e, swp_ab hab]
            have e2 : swp d c P'' ++ [c, d] ++ List.replicate m d = (swp d c P'' ++ [c]) ++ List.replicate (m + 1) d := by
              rw [List.replicate_succ]; simp
            rw [e2, naLen_app _ _ (by simpa using hc)]
            simp [swp_len d c _ _ (Nat.le_refl P''.length)]
          · rw [swp_sep (by simpa using hd), naLen_app]
            · simp [swp_len a c _ _ (Nat.le_refl (P'' ++ [d]).length), swp]
            · simpa [swp] using hc
      · rw [swp_snoc hcb, naLen_app _ _ (by simpa using hc)]
        simp [swp_len a b _ _ (Nat.le_refl P'.length)]
end Mine
namespace Mine
def yAt (a b : Int) (fs : List Int) : Nat → Nat
  | 0 => fs.length
  | r + 1 => max (naLen a (swn a b r fs)) (yAt a b fs r - 1)
theorem yAt_le (a b : Int) (fs : List Int) : ∀ r, yAt a b fs r ≤ fs.length
  | 0 => Nat.le_refl _
  | r + 1 => by
    have h1 := yAt_le a b fs r
    have h2 := naLen_le a (swn a b r fs)
    rw [swn_len] at h2
    unfold yAt
    omega
theorem na_le_yAt {a b : Int} (hab : a ≠ b) (fs : List Int) : ∀ r, naLen a (swn a b r fs) ≤ yAt a b fs r
  | 0 => naLen_le a fs
  | r + 1 => by
    have h := (naLen_swp hab (swn a b r fs)).1
    show naLen a (swp a b (swn a b r fs)) ≤ max (naLen a (swn a b r fs)) (yAt a b fs r - 1)
    omega
theorem take_rep {a : Int} (P : List Int) (m y : Nat) (h1 : P.length ≤ y) (h2 : y ≤ P.length + m) : (P ++ List.replicate m a).take y = P ++ List.replicate (y - P.length) a := by
  rw [List.take_append, List.take_of_length_le h1, List.take_replicate]
  congr 2
  omega
theorem swp_core {a b : Int} (hab : a ≠ b) {P : List Int} (hP : P.getLast? ≠ some a) (k t : Nat) :
    swp a b (P ++ List.replicate k a ++ b :: List.replicate t a) = if k = 0 then swp a b P ++ b :: List.replicate t a else swp a b P ++ List.replicate (k - 1) a ++ b :: List.replicate (t + 1) a := by
  have e : P ++ List.replicate k a ++ b :: List.replicate t a = (P ++ List.replicate k a ++ [b]) ++ List.replicate t a := by simp
  rw [e, swp_rep hab]
  split
  · rename_i h
    subst h
    rw [List.replicate_zero, List.append_nil, swp_sep hP]
    simp [swp]
  · rename_i h
    obtain ⟨j, rfl⟩ : ∃ j, k = j + 1 := ⟨k - 1, by omega⟩
    have e2 : P ++ List.replicate (j + 1) a ++ [b] = (P ++ List.replicate j a) ++ [a, b] := by rw [List.replicate_succ']; simp
    rw [e2, swp_ab hab, swp_rep hab, Nat.add_sub_cancel, List.replicate_succ]
    simp
theorem swn_b {a b : Int} (hab : a ≠ b) (fs : List Int) : ∀ r, swn a b r (fs ++ [b]) = (swn a b r fs).take (yAt a b fs r) ++ b :: List.replicate (fs.length - yAt a b fs r) a
  | 0 => by simp [swn, yAt]
  | r + 1 => by
    show swp a b (swn a b r (fs ++ [b])) = _
    rw [swn_b hab fs r]
    have hy1 := yAt_le a b fs r
    have hy2 := na_le_yAt hab fs r
    have hs := naLen_split a (swn a b r fs)
    have hlen := swn_len a b fs r
    have hle := naLen_le a (swn a b r fs)
    have hs1 : (swn a b (r + 1) fs) = swp a b (swn a b r fs) := rfl
    have hy' : yAt a b fs (r + 1) = max (naLen a (swn a b r fs)) (yAt a b fs r - 1) := rfl
    rw [hs1, hy']
    generalize yAt a b fs r = y at *
    generalize swn a b r fs = R at *
    generalize naLen a R = l at *
    have hPl : (R.take l).length = l := by rw [List.length_take]; omega
    generalize R.take l = P at *
    have hP := hs.2
    have hs1 := hs.1
    have e1 : R.take y = P ++ List.replicate (y - l) a := by
      rw [hs1, take_rep P _ y (by omega) (by omega), hPl]
    have e2 : swp a b R = swp a b P ++ List.replicate (R.length - l) a := by
      rw [hs1, swp_rep hab, ← hs1]
    have hsl := swp_len a b _ P (Nat.le_refl _)
    rw [e1, e2, swp_core hab hP, take_rep _ _ _ (by omega) (by omega), hsl, hPl]
    split
    · have h1 : max l (y - 1) - l = 0 := by omega
      have h2 : fs.length - max l (y - 1) = fs.length - y := by omega
      rw [h1, h2, List.replicate_zero, List.append_nil]
    · have h1 : max l (y - 1) - l = y - l - 1 := by omega
      have h2 : fs.length - max l (y - 1) = fs.length - y + 1 := by omega
      rw [h1, h2]
def spotAt (X : List Int) (k : Int) : Int := X.getD ((X.length : Int) - 1 - k).toNat 0
theorem spot_zero (X : List Int) (x : Int) : spotAt (X ++ [x]) 0 = x := by simp [spotAt]
theorem spot_succ (X : List Int) (x k : Int) (h0 : 1 ≤ k) (h1 : k ≤ X.length) : spotAt (X ++ [x]) k = spotAt X (k - 1) := by
  unfold spotAt
  have e : (((X ++ [x]).length : Int) - 1 - k).toNat = ((X.length : Int) - 1 - (k - 1)).toNat := by simp; omega
  rw [e, List.getD_eq_getElem?_getD, List.getD_eq_getElem?_getD, List.getElem?_append_left (by omega)]
theorem there_cases (σ : Int) (X : List Int) (r : Int) : thereOf σ X r = σ + X.length - 1 ∨ ∃ k, 0 ≤ k ∧ k ≤ r ∧ k < X.length ∧ thereOf σ X r = spotAt X k + 2 * k - r := by
  have h := mx_mem (x := σ + X.length - 1) (r := (rangeKs 0 (min (r + 1) X.length).toNat).map fun k => X.getD ((X.length : Int) - 1 - k).toNat 0 + 2 * k - r)
  rcases List.mem_cons.mp h with h | h
  · exact .inl h
  · obtain ⟨k, hk, e⟩ := List.mem_map.mp h
    have := mem_rangeKs hk
    exact .inr ⟨k, by omega, by omega, by omega, e.symm⟩
theorem there_ge0 (σ : Int) (X : List Int) (r : Int) : σ + X.length - 1 ≤ thereOf σ X r := le_mx _ (.head _)
theorem there_gek (σ : Int) (X : List Int) (r k : Int) (h0 : 0 ≤ k) (h1 : k ≤ r) (h2 : k < X.length) : spotAt X k + 2 * k - r ≤ thereOf σ X r := by
  refine le_mx _ (.tail _ (List.mem_map.mpr ⟨k, ?_, rfl⟩))
  refine List.mem_map.mpr ⟨k.toNat, List.mem_range.mpr (by omega), by omega⟩
theorem there_eq {σ : Int} {X : List Int} {r M : Int} (h1 : M = σ + X.length - 1 ∨ ∃ k, 0 ≤ k ∧ k ≤ r ∧ k < X.length ∧ M = spotAt X k + 2 * k - r) (h2 : σ + X.length - 1 ≤ M) (h3 : ∀ k, 0 ≤ k → k ≤ r → k < X.length → spotAt X k + 2 * k - r ≤ M) : thereOf σ X r = M := by
  have a1 := there_ge0 σ X r
  have a2 : thereOf σ X r ≤ M := by
    rcases there_cases σ X r with h | ⟨k, k0, k1, k2, e⟩
    · omega
    · have := h3 k k0 k1 k2
      omega
  have a3 : M ≤ thereOf σ X r := by
    rcases h1 with h | ⟨k, k0, k1, k2, e⟩
    · omega
    · have := there_gek σ X r k k0 k1 k2
      omega
  omega
theorem there_nil (σ r : Int) : thereOf σ [] r = σ - 1 := there_eq (.inl (by simp)) (by simp) fun k h0 _ h2 => by simp at h2; omega
theorem there_zero {σ : Int} {X : List Int} {x : Int} (h : σ + X.length ≤ x) : thereOf σ (X ++ [x]) 0 = x := by
  refine there_eq (.inr ⟨0, by omega, by omega, by simp <;> omega, by rw [spot_zero]; omega⟩) (by simp; omega) fun k k0 k1 k2 => ?_
  obtain rfl : k = 0 := by omega
  rw [spot_zero]; omega
theorem there_succ {σ : Int} {X : List Int} {x : Int} {r : Int} (h0 : 0 ≤ r) : thereOf σ (X ++ [x]) (r + 1) = max (thereOf σ X r + 1) (thereOf σ (X ++ [x]) r - 1) := by
  have a1 := there_ge0 σ X r
  have hl : ((X ++ [x]).length : Int) = X.length + 1 := by simp
  refine there_eq ?_ (by rw [hl]; omega) fun k k0 k1 k2 => ?_
  · by_cases hc : thereOf σ (X ++ [x]) r - 1 ≤ thereOf σ X r + 1
    · rw [Int.max_eq_left hc]
      rcases there_cases σ X r with h | ⟨k, k0, k1, k2, e⟩
      · exact .inl (by rw [hl]; omega)
      · refine .inr ⟨k + 1, by omega, by omega, by rw [hl]; omega, ?_⟩
        rw [spot_succ X x (k + 1) (by omega) (by omega), show k + 1 - 1 = k from by omega]
        omega
    · rw [Int.max_eq_right (by omega)]
      rcases there_cases σ (X ++ [x]) r with h | ⟨k, k0, k1, k2, e⟩
      · rw [hl] at h; omega
      · exact .inr ⟨k, k0, by omega, k2, by omega⟩
  · rw [hl] at k2
    by_cases hk : k ≤ r
    · have := there_gek σ (X ++ [x]) r k k0 hk (by rw [hl]; omega)
      omega
    · obtain rfl : k = r + 1 := by omega
      rw [spot_succ X x (r + 1) (by omega) (by omega), show r + 1 - 1 = r from by omega]
      have := there_gek σ X r r h0 (Int.le_refl _) (by omega)
      omega
end Mine
namespace Mine
theorem getD_app {fs : List Int} {c : Int} {i : Nat} (h : i < fs.length) : (fs ++ [c]).getD i 0 = fs.getD i 0 := by
  rw [List.getD_eq_getElem?_getD, List.getD_eq_getElem?_getD, List.getElem?_append_left h]
theorem getD_end {fs : List Int} {c : Int} : (fs ++ [c]).getD fs.length 0 = c := by
  simp [List.getD_eq_getElem?_getD]
theorem mvSt_app (fs : List Int) (c a b r : Int) : ∀ i, i ≤ fs.length → mvSt (fs ++ [c]) a b r i = mvSt fs a b r i
  | 0, _ => rfl
  | i + 1, h => by
    rw [mvSt_succ, mvSt_succ, mvSt_app fs c a b r i (by omega)]
    unfold mvStep
    rw [getD_app (by omega)]
def cell (fs T : List Int) (a b : Int) (p : Nat) : Int := if T.any (· == (p : Int)) = true then b else if fs.getD p 0 = b then a else fs.getD p 0
theorem rowOf_get (fs T : List Int) (a b : Int) (n p : Nat) : (rowOf fs T a b n)[p]? = if p < n then some (cell fs T a b p) else none := by
  unfold rowOf cell
  rw [List.getElem?_map]
  by_cases h : p < n
  · rw [List.getElem?_range h, if_pos h]; rfl
  · rw [if_neg h, List.getElem?_eq_none (by simp; omega)]; rfl
theorem not_any {T : List Int} {n : Nat} (h : ∀ t ∈ T, t < (n : Int)) : ¬ T.any (· == (n : Int)) = true := by
  intro e
  obtain ⟨t, ht, e2⟩ := List.any_eq_true.mp e
  have := h t ht
  have : t = n := by simpa using e2
  omega
theorem row_app (fs T : List Int) (c a b : Int) : rowOf (fs ++ [c]) T a b fs.length = rowOf fs T a b fs.length := by
  unfold rowOf
  refine List.map_congr_left fun p hp => ?_
  rw [getD_app (List.mem_range.mp hp)]
theorem row_plain {fs T : List Int} {c a b : Int} (hc : c ≠ b) (hT : ∀ t ∈ T, t < (fs.length : Int)) : rowOf (fs ++ [c]) T a b (fs.length + 1) = rowOf fs T a b fs.length ++ [c] := by
  rw [rowOf_succ, row_app, if_neg (not_any hT), getD_end, if_neg hc]
theorem row_walk {fs T R : List Int} {a b : Int} {y : Nat} (hT : ∀ t ∈ T, t < (fs.length : Int)) (hR : rowOf fs T a b fs.length = R) (h1 : naLen a R ≤ y) (h2 : y ≤ fs.length) :
    rowOf (fs ++ [b]) (T ++ [(y : Int)]) a b (fs.length + 1) = R.take y ++ b :: List.replicate (fs.length - y) a := by
  have hRl : R.length = fs.length := by rw [← hR, rowOf_len]
  have hs := (naLen_split a R).1
  have hle := naLen_le a R
  refine List.ext_getElem? fun p => ?_
  rw [rowOf_get]
  have hany : ((T ++ [(y : Int)]).any (· == (p : Int)) = true) ↔ (T.any (· == (p : Int)) = true ∨ y = p) := by
    have hq : ((y : Int) = (p : Int)) ↔ y = p := by omega
    rw [List.any_append, Bool.or_eq_true]
    simp [hq]
  by_cases hp : p < fs.length + 1
  · rw [if_pos hp]
    by_cases hpy : p = y
    · subst hpy
      have e : cell (fs ++ [b]) (T ++ [(p : Int)]) a b p = b := by unfold cell; rw [if_pos (hany.mpr (.inr rfl))]
      rw [e, List.getElem?_append_right (by rw [List.length_take]; omega), List.length_take]
      rw [show p - min p R.length = 0 from by omega]
      rfl
    · have e : cell (fs ++ [b]) (T ++ [(y : Int)]) a b p = if p < fs.length then cell fs T a b p else a := by
        unfold cell
        by_cases hpn : p < fs.length
        · rw [if_pos hpn, getD_app hpn]
          by_cases hq : T.any (· == (p : Int)) = true
          · rw [if_pos hq, if_pos (hany.mpr (.inl hq))]
          · rw [if_neg hq, if_neg (fun h => (hany.mp h).elim hq fun h => hpy h.symm)]
        · obtain rfl : p = fs.length := by omega
          rw [if_neg hpn, if_neg (fun h => (hany.mp h).elim (not_any hT) fun h => hpy h.symm), getD_end, if_pos rfl]
      rw [e]
      have hg : p < fs.length → R[p]? = some (cell fs T a b p) := fun h => by rw [← hR, rowOf_get, if_pos h]
      by_cases hlt : p < y
      · rw [if_pos (by omega), List.getElem?_append_left (by rw [List.length_take]; omega), List.getElem?_take_of_lt hlt, hg (by omega)]
      · rw [List.getElem?_append_right (by rw [List.length_take]; omega), List.length_take]
        obtain ⟨j, hj⟩ : ∃ j, p = y + 1 + j := ⟨p - y - 1, by omega⟩
        rw [show p - min y R.length = j + 1 from by omega, List.getElem?_cons_succ, List.getElem?_replicate]
        have hj2 : j < fs.length - y := by omega
        rw [if_pos hj2]
        by_cases hpn : p < fs.length
        · rw [if_pos hpn]
          have h3 := hg hpn
          rw [hs, List.getElem?_append_right (by rw [List.length_take]; omega), List.getElem?_replicate] at h3
          split at h3
          · exact h3.symm
          · exact nomatch h3
        · rw [if_neg hpn]
  · rw [if_neg hp, List.getElem?_eq_none]
    rw [List.length_append, List.length_take, List.length_cons, List.length_replicate]
    omega
theorem moved_inv {a b : Int} (hab : a ≠ b) : ∀ (k : Nat) (fs : List Int), fs.length = k → ∃ (σ : Int) (X : List Int), 0 ≤ σ ∧ σ + X.length ≤ fs.length ∧ ∀ r : Nat, ∃ T, mvSt fs a b r fs.length = (σ, X, T) ∧ (∀ t ∈ T, t < (fs.length : Int)) ∧ rowOf fs T a b fs.length = swn a b r fs ∧ (naLen a (swn a b r fs) : Int) = thereOf σ X r + 1
  | 0, fs, h => by
    have : fs = [] := List.length_eq_zero_iff.mp h
    subst this
    refine ⟨0, [], by omega, by simp, fun r => ⟨[], rfl, (fun _ h => nomatch h), ?_, ?_⟩⟩
    · have := swn_len a b [] r
      rw [List.length_eq_zero_iff.mp this]; rfl
    · have := swn_len a b [] r
      rw [List.length_eq_zero_iff.mp this, there_nil]; rfl
  | k + 1, fs, h => by
    obtain ⟨g, c, rfl⟩ : ∃ r f, fs = r ++ [f] := ⟨fs.dropLast, fs.getLast (by intro e; simp [e] at h), (List.dropLast_concat_getLast _).symm⟩
    have hk : g.length = k := by simpa using h
    obtain ⟨σ, X, hσ, hX, ih⟩ := moved_inv hab k g hk
    have hn : (g ++ [c]).length = g.length + 1 := by simp
    have hst : ∀ r : Int, mvSt (g ++ [c]) a b r (g.length + 1) = mvStep (g ++ [c]) a b r (mvSt g a b r g.length) g.length := fun r => by rw [mvSt_succ, mvSt_app _ _ _ _ _ _ (Nat.le_refl _)]
    rw [hn]
    by_cases hcb : c = b
    · subst hcb
      have hy : ∀ r : Nat, thereOf σ (X ++ [(g.length : Int)]) r = (yAt a c g r : Int) := by
        intro r
        induction r with
        | zero => exact there_zero hX
        | succ r ihr =>
          obtain ⟨_, _, _, _, hna⟩ := ih r
          rw [show ((r + 1 : Nat) : Int) = (r : Int) + 1 from by omega, there_succ (by omega), ihr]
          show _ = ((max (naLen a (swn a c r g)) (yAt a c g r - 1) : Nat) : Int)
          have := there_ge0 σ X r
          omega
      refine ⟨σ, X ++ [(g.length : Int)], hσ, by simp; omega, fun r => ?_⟩
      obtain ⟨T, hT, hT2, hrow, hna⟩ := ih r
      have h1 := na_le_yAt hab g r
      have h2 := yAt_le a c g r
      refine ⟨T ++ [thereOf σ (X ++ [(g.length : Int)]) r], ?_, ?_, ?_, ?_⟩
      · rw [hst, hT]; unfold mvStep; rw [getD_end, if_pos rfl]
      · intro t ht
        rcases List.mem_append.mp ht with ht | ht
        · have := hT2 t ht; omega
        · rw [List.mem_singleton.mp ht, hy]; omega
      · rw [hy, row_walk hT2 hrow h1 h2, swn_b hab]
      · rw [hy, swn_b hab]
        have e : (swn a c r g).take (yAt a c g r) ++ c :: List.replicate (g.length - yAt a c g r) a = ((swn a c r g).take (yAt a c g r) ++ [c]) ++ List.replicate (g.length - yAt a c g r) a := by simp
        rw [e, naLen_app _ _ (by simpa using fun h => hab h.symm), List.length_append, List.length_take, swn_len]
        simp
        omega
    · by_cases hca : c = a
      · subst hca
        refine ⟨σ, X, hσ, by omega, fun r => ?_⟩
        obtain ⟨T, hT, hT2, hrow, hna⟩ := ih r
        refine ⟨T, ?_, fun t ht => by have := hT2 t ht; omega, ?_, ?_⟩
        · rw [hst, hT]; unfold mvStep; rw [getD_end, if_neg hcb, if_pos rfl]
        · rw [row_plain hcb hT2, hrow, swn_snoc hcb]
        · rw [swn_snoc hcb, naLen_a, hna]
      · refine ⟨(g.length : Int) + 1, [], by omega, by simp, fun r => ?_⟩
        obtain ⟨T, hT, hT2, hrow, hna⟩ := ih r
        refine ⟨T, ?_, fun t ht => by have := hT2 t ht; omega, ?_, ?_⟩
        · rw [hst, hT]; unfold mvStep; rw [getD_end, if_neg hcb, if_neg hca]
        · rw [row_plain hcb hT2, hrow, swn_snoc hcb]
        · rw [swn_snoc hcb, naLen_snoc hca, swn_len, there_nil]; omega
theorem moved_law {a b : Int} (hab : a ≠ b) (fs : List Int) (r : Nat) : moved fs a b r = swn a b r fs := by
  obtain ⟨σ, X, _, _, h⟩ := moved_inv hab _ fs rfl
  obtain ⟨T, hT, _, hrow, _⟩ := h r
  unfold moved
  rw [hT]
  exact hrow
end Mine
namespace Mine
theorem mostOf_max (a b : Int) (S : List Int) (M : Int) (hM : 0 ≤ M) : ∀ n, mostOf a b S M n = max M (mostOf a b S 0 n)
  | 0 => by show M = max M 0; omega
  | n + 1 => by
    rw [mostOf_succ, mostOf_succ, mostOf_max a b S M hM n]
    unfold mostStep
    split
    · omega
    · rfl
theorem mostOf_nonneg (a b : Int) (S : List Int) : ∀ n, 0 ≤ mostOf a b S 0 n
  | 0 => Int.le_refl _
  | n + 1 => by
    have := mostOf_nonneg a b S n
    rw [mostOf_succ]
    unfold mostStep
    split <;> omega
theorem take_app {S : List Int} {c : Int} {k : Nat} (h : k ≤ S.length) : (S ++ [c]).take k = S.take k := by rw [List.take_append_of_le_length h]
theorem drop_app {S : List Int} {c : Int} {k : Nat} (h : k ≤ S.length) : (S ++ [c]).drop k = S.drop k ++ [c] := by rw [List.drop_append_of_le_length h]
theorem mostOf_a {a b : Int} (hab : a ≠ b) (S : List Int) : ∀ i, i ≤ S.length → mostOf a b (S ++ [a]) 0 i = mostOf a b S 0 i
  | 0, _ => rfl
  | i + 1, h => by
    rw [mostOf_succ, mostOf_succ, mostOf_a hab S i (by omega)]
    unfold mostStep
    rw [getD_app (by omega), take_app (by omega), drop_app (by omega), List.count_append]
    have e : List.count b [a] = 0 := by simp [hab]
    rw [e]; rfl
theorem mostOf_b {a b : Int} (S : List Int) : ∀ i, i ≤ S.length → mostOf a b (S ++ [b]) 0 i = if mostOf a b S 0 i = 0 then 0 else mostOf a b S 0 i + 1
  | 0, _ => rfl
  | i + 1, h => by
    rw [mostOf_succ, mostOf_succ, mostOf_b S i (by omega)]
    have hn := mostOf_nonneg a b S i
    unfold mostStep
    rw [getD_app (by omega), take_app (by omega), drop_app (by omega), List.count_append]
    have e : List.count b [b] = 1 := by simp
    rw [e]
    generalize mostOf a b S 0 i = x at hn ⊢
    split
    · rename_i hc
      have := hc.2
      split <;> split <;> omega
    · rfl
def mostS (a b : Int) (S : List Int) : Int := mostOf a b S 0 S.length
theorem mostS_a {a b : Int} (hab : a ≠ b) (S : List Int) : mostS a b (S ++ [a]) = mostS a b S := by
  unfold mostS
  rw [List.length_append, List.length_singleton, mostOf_succ, mostOf_a hab S _ (Nat.le_refl _)]
  unfold mostStep
  rw [getD_end, if_neg fun h => hab h.1]
theorem mostS_b {a b : Int} (S : List Int) : mostS a b (S ++ [b]) = max (S.count a : Int) (if mostS a b S = 0 then 0 else mostS a b S + 1) := by
  have hn := mostOf_nonneg a b S S.length
  unfold mostS
  rw [List.length_append, List.length_singleton, mostOf_succ, mostOf_b S _ (Nat.le_refl _)]
  unfold mostStep
  rw [getD_end, take_app (Nat.le_refl _), List.take_length, List.drop_of_length_le (by simp)]
  simp only [List.count_nil]
  generalize mostOf a b S 0 S.length = x at hn ⊢
  split
  · split <;> omega
  · rename_i h
    have : ¬ 0 < (S.count a : Int) := fun e => h ⟨trivial, e⟩
    split <;> omega
theorem sort_len {a b : Int} {S : List Int} (hab : a ≠ b) (hS : ∀ x ∈ S, x = a ∨ x = b) : S.count b + S.count a = S.length := by
  induction S with
  | nil => rfl
  | cons x r ih =>
    have := ih fun y hy => hS y (.tail _ hy)
    rw [List.count_cons, List.count_cons, List.length_cons]
    rcases hS x (.head _) with rfl | rfl
    · simp [hab]; omega
    · simp [hab.symm]; omega
theorem sort_na {a b : Int} (hab : a ≠ b) (S : List Int) : naLen a (sortSt a b S) = S.count b := by
  unfold sortSt
  rw [naLen_app]
  · simp
  · intro e
    have := List.mem_of_getLast? e
    exact hab (List.eq_of_mem_replicate this)
theorem stretch_law {a b : Int} (hab : a ≠ b) : ∀ (k : Nat) (S : List Int), S.length = k → (∀ x ∈ S, x = a ∨ x = b) → (mostS a b S ≤ S.length) ∧ ∀ n : Nat, mostS a b S ≤ n → swn a b n S = sortSt a b S
  | 0, S, h, _ => by
    have : S = [] := List.length_eq_zero_iff.mp h
    subst this
    refine ⟨Int.le_refl _, fun n _ => ?_⟩
    have := swn_len a b [] n
    rw [List.length_eq_zero_iff.mp this]; rfl
  | k + 1, S', h, hS' => by
    obtain ⟨S, c, rfl⟩ : ∃ r f, S' = r ++ [f] := ⟨S'.dropLast, S'.getLast (by intro e; simp [e] at h), (List.dropLast_concat_getLast _).symm⟩
    have hk : S.length = k := by simpa using h
    have hS : ∀ x ∈ S, x = a ∨ x = b := fun x hx => hS' x (List.mem_append.mpr (.inl hx))
    obtain ⟨ih1, ih2⟩ := stretch_law hab k S hk hS
    have hlen := sort_len hab hS
    have hM0 : 0 ≤ mostS a b S := mostOf_nonneg a b S _
    rcases hS' c (by simp) with rfl | rfl
    · rw [mostS_a hab]
      refine ⟨by simp; omega, fun n hn => ?_⟩
      rw [swn_snoc hab, ih2 n hn]
      unfold sortSt
      have e1 : List.count b (S ++ [c]) = List.count b S := by simp [List.count_append, hab]
      have e2 : List.count c (S ++ [c]) = List.count c S + 1 := by simp [List.count_append]
      rw [e1, e2, List.replicate_succ', List.append_assoc]
    · rw [mostS_b]
      generalize hM : mostS a c S = M at *
      refine ⟨by simp; split <;> omega, fun n hn => ?_⟩
      have hL1 : ∀ r : Nat, M ≤ r → naLen a (swn a c r S) = S.count c := fun r hr => by rw [ih2 r hr, sort_na hab]
      have hL2 : ∀ d r : Nat, M = r + d → naLen a (swn a c r S) ≤ S.count c + d := by
        intro d
        induction d with
        | zero => intro r hr; rw [hL1 r (by omega)]; omega
        | succ d ihd =>
          intro r hr
          have h1 := ihd (r + 1) (by omega)
          have h2 := (naLen_swp hab (swn a c r S)).2
          have h3 : swn a c (r + 1) S = swp a c (swn a c r S) := rfl
          rw [h3] at h1
          omega
      have hL : ∀ r : Nat, (naLen a (swn a c r S) : Int) ≤ S.count c + max (M - r) 0 := by
        intro r
        by_cases hr : M ≤ r
        · rw [hL1 r hr]; omega
        · have := hL2 (M - r).toNat r (by omega)
          omega
      generalize hK : max (S.count a : Int) (if M = 0 then 0 else M + 1) = K at hn
      have hKM : M = 0 ∨ M + 1 ≤ K := by
        by_cases h0 : M = 0
        · exact .inl h0
        · rw [if_neg h0] at hK; omega
      have hKA : (S.count a : Int) ≤ K := by omega
      have hY : ∀ r : Nat, (yAt a c S r : Int) ≤ S.count c + max (K - r) 0 := by
        intro r
        induction r with
        | zero => show (S.length : Int) ≤ _; omega
        | succ r ihr =>
          show ((max (naLen a (swn a c r S)) (yAt a c S r - 1) : Nat) : Int) ≤ _
          have := hL r
          omega
      have hyn := hY n
      have hy2 := na_le_yAt hab S n
      have hMn : M ≤ n := by omega
      rw [hL1 n hMn] at hy2
      have hyE : yAt a c S n = S.count c := by omega
      rw [swn_b hab, ih2 n hMn, hyE]
      unfold sortSt
      have e1 : List.count c (S ++ [c]) = List.count c S + 1 := by simp [List.count_append]
      have e2 : List.count a (S ++ [c]) = List.count a S := by simp [List.count_append, hab.symm]
      rw [e1, e2, List.take_append_of_le_length (by simp), List.take_of_length_le (by simp), List.replicate_succ', List.append_assoc, show S.length - List.count c S = List.count a S from by omega]
      rfl
theorem swn_nil (a b : Int) : ∀ n, swn a b n [] = [] := fun n => List.length_eq_zero_iff.mp (swn_len a b [] n)
theorem swn_sep {a b : Int} {Z : List Int} (hZ : ∀ c, Z.getLast? = some c → c ≠ a ∧ c ≠ b) (Y : List Int) : ∀ n, swn a b n (Z ++ Y) = swn a b n Z ++ swn a b n Y
  | 0 => rfl
  | n + 1 => by
    show swp a b (swn a b n (Z ++ Y)) = swp a b (swn a b n Z) ++ swp a b (swn a b n Y)
    rw [swn_sep hZ Y n, swp_sep]
    intro e
    rcases List.eq_nil_or_concat Z with rfl | ⟨Z', c, rfl⟩
    · rw [swn_nil] at e; exact nomatch e
    · rw [List.concat_eq_append] at hZ e
      have hc := hZ c (by simp)
      rw [swn_snoc hc.2] at e
      exact hc.1 (by simpa using e)
theorem st_inv {a b : Int} (hab : a ≠ b) : ∀ (k : Nat) (g : List Int), g.length = k → ∃ (Z Rw S : List Int) (M : Int), stSt a b g = (Rw, M, S) ∧ g = Z ++ S ∧ (∀ x ∈ S, x = a ∨ x = b) ∧ (∀ c, Z.getLast? = some c → c ≠ a ∧ c ≠ b) ∧ 0 ≤ M ∧ M ≤ Z.length ∧ ∀ n : Nat, M ≤ n → swn a b n Z = Rw
  | 0, g, h => by
    have : g = [] := List.length_eq_zero_iff.mp h
    subst this
    exact ⟨[], [], [], 0, rfl, rfl, (fun _ h => nomatch h), (fun _ h => nomatch h), Int.le_refl _, Int.le_refl _, fun n _ => swn_nil a b n⟩
  | k + 1, g', h => by
    obtain ⟨g, x, rfl⟩ : ∃ r f, g' = r ++ [f] := ⟨g'.dropLast, g'.getLast (by intro e; simp [e] at h), (List.dropLast_concat_getLast _).symm⟩
    obtain ⟨Z, Rw, S, M, h1, h2, h3, h4, h5, h6, h7⟩ := st_inv hab k g (by simpa using h)
    rw [stSt_snoc, h1]
    unfold stStep
    by_cases hx : x = a ∨ x = b
    · rw [if_pos hx]
      refine ⟨Z, Rw, S ++ [x], M, rfl, by rw [h2, List.append_assoc], ?_, h4, h5, h6, h7⟩
      intro y hy
      rcases List.mem_append.mp hy with hy | hy
      · exact h3 y hy
      · rw [List.mem_singleton.mp hy]; exact hx
    · rw [if_neg hx]
      obtain ⟨i1, i2⟩ := stretch_law hab _ S rfl h3
      have hxa : x ≠ a := fun e => hx (.inl e)
      have hxb : x ≠ b := fun e => hx (.inr e)
      refine ⟨g ++ [x], _, [], _, rfl, by simp, (fun _ h => nomatch h), ?_, ?_, ?_, ?_⟩
      · intro c hc
        have : c = x := by simpa using hc.symm
        rw [this]; exact ⟨hxa, hxb⟩
      · show 0 ≤ mostOf a b S M S.length
        rw [mostOf_max a b S M h5]; omega
      · show mostOf a b S M S.length ≤ _
        rw [mostOf_max a b S M h5]
        unfold mostS at i1
        rw [h2]; simp; omega
      · intro n hn
        have hn' : mostOf a b S M S.length ≤ n := hn
        rw [mostOf_max a b S M h5] at hn'
        rw [swn_snoc hxb, h2, swn_sep h4, h7 n (by omega), i2 n (by unfold mostS; omega)]
theorem settled_inv {a b : Int} (hab : a ≠ b) (ha : 0 ≤ a) (hb : 0 ≤ b) (fs : List Int) : (0 ≤ settledMost a b fs ∧ settledMost a b fs ≤ fs.length) ∧ ∀ n : Nat, settledMost a b fs ≤ n → swn a b n fs = settledRow a b fs := by
  obtain ⟨Z, Rw, S, M, h1, h2, h3, h4, h5, h6, h7⟩ := st_inv hab _ fs rfl
  obtain ⟨i1, i2⟩ := stretch_law hab _ S rfl h3
  unfold mostS at i1
  unfold settledMost settledRow
  rw [stSt_snoc, h1]
  unfold stStep
  rw [if_neg (by omega)]
  dsimp only
  rw [mostOf_max a b S M h5]
  refine ⟨⟨by omega, by rw [h2]; simp; omega⟩, fun n hn => ?_⟩
  have e : (Rw ++ sortSt a b S ++ [-1]).take ((Rw ++ sortSt a b S ++ [-1]).length - 1) = Rw ++ sortSt a b S := by
    rw [List.length_append, List.length_singleton, Nat.add_sub_cancel, List.take_append_of_le_length (Nat.le_refl _), List.take_length]
  rw [e, h2, swn_sep h4, h7 n (by omega), i2 n (by unfold mostS; omega)]
end Mine
namespace Mine
theorem fig_list (fs : List Int) : (figText fs).cps.toList = fs.map fun f => 65 + f.toNat := rfl
theorem no_occ {x y : Str} (hy : 1 ≤ y.length) (h : ∀ i, ¬ StrLaws.At x y x.length i) : Builtin.Str.occurrences x y 0 x.length (x.length + 1) = [] := by
  obtain ⟨f, hc, _⟩ := StrLaws.occ_tight x y hy
  cases ho : Builtin.Str.occurrences x y 0 x.length (x.length + 1) with
  | nil => rfl
  | cons c r => rw [ho] at hc; exact absurd hc.2.1 (h c)
theorem plain_one {fs : List Int} {k v : Str} (hk : k.cps.toList.head? = some 38) : Txt.replace (figText fs) k v = figText fs := by
  have hk2 : ∃ q, k.cps.toList = 38 :: q := by
    cases hq : k.cps.toList with
    | nil => rw [hq] at hk; exact nomatch hk
    | cons a q => rw [hq] at hk; exact ⟨q, by rw [show a = 38 from by simpa using hk]⟩
  obtain ⟨q, hq⟩ := hk2
  have hl : k.length = q.length + 1 := by
    have : k.cps.toList.length = k.length := Array.length_toList
    rw [← this, hq]; rfl
  unfold Txt.replace
  rw [no_occ (by omega)]
  · rfl
  · rintro i ⟨_, h2⟩
    rw [StrLaws.subAt_eq, fig_list] at h2
    have h3 := eq_of_beq h2
    rw [hq] at h3
    have h4 : 38 ∈ ((fs.map fun f => 65 + f.toNat).drop i).take k.length := by rw [h3]; exact .head _
    have h5 := List.mem_of_mem_drop (List.mem_of_mem_take h4)
    obtain ⟨f, _, e⟩ := List.mem_map.mp h5
    omega
theorem plain_text (fs : List Int) : Txt.replace (figText fs) (Str.ofString "&lt;") (Str.ofString "<") = figText fs ∧ Txt.replace (figText fs) (Str.ofString "&gt;") (Str.ofString ">") = figText fs ∧ Txt.replace (figText fs) (Str.ofString "&amp;") (Str.ofString "&") = figText fs :=
  ⟨plain_one (by decide), plain_one (by decide), plain_one (by decide)⟩
theorem at_iff {a b : Int} {fs : List Int} (h : ∀ f ∈ fs, 0 ≤ f) (ha : 0 ≤ a) (hb : 0 ≤ b) (i : Nat) : StrLaws.At (figText fs) (figText [a, b]) (figText fs).length i ↔ fs[i]? = some a ∧ fs[i + 1]? = some b := by
  unfold StrLaws.At
  rw [StrLaws.subAt_eq, fig_list, fig_list, figText_len, figText_len, ← List.map_drop, ← List.map_take]
  have e0 : fs[i]? = (fs.drop i)[0]? := by rw [List.getElem?_drop]; rfl
  have e1 : fs[i + 1]? = (fs.drop i)[1]? := by rw [List.getElem?_drop]
  have hl : (fs.drop i).length = fs.length - i := List.length_drop
  rw [e0, e1]
  have hm : ∀ f ∈ fs.drop i, 0 ≤ f := fun f hf => h f (List.mem_of_mem_drop hf)
  rcases hd : fs.drop i with _ | ⟨p, _ | ⟨q, r⟩⟩
  · rw [hd] at hl
    simp
  · rw [hd] at hl
    simp
  · rw [hd] at hl hm
    have hp := hm p (.head _)
    have hq := hm q (.tail _ (.head _))
    simp only [List.length_cons] at hl
    simp
    constructor
    · rintro ⟨_, h1, h2⟩
      exact ⟨by omega, by omega⟩
    · rintro ⟨rfl, rfl⟩
      exact ⟨by omega, rfl, rfl⟩
theorem swp_none {a b : Int} : ∀ (k : Nat) (l : List Int), l.length ≤ k → (∀ i : Nat, ¬ (l[i]? = some a ∧ l[i + 1]? = some b)) → swp a b l = l
  | _, [], _, _ => rfl
  | _, [_], _, _ => rfl
  | 0, x :: y :: r, hk, _ => by simp at hk
  | k + 1, x :: y :: r, hk, h => by
    rw [swp_two, if_neg fun e => h 0 (by simp [e.1, e.2]), swp_none k (y :: r) (by simp at hk ⊢; omega) fun i hi => h (i + 1) (by simpa using hi)]
theorem join_two (z p : Str) (q : Str) (r : List Str) : (Str.join z (p :: q :: r)).cps.toList = p.cps.toList ++ (z.cps.toList ++ (Str.join z (q :: r)).cps.toList) := by
  show ((p ++ z) ++ Str.join z (q :: r)).cps.toList = _
  rw [Str.cps_append, Str.cps_append, Array.toList_append, Array.toList_append, List.append_assoc]
theorem swap_from {a b : Int} {fs : List Int} (h : ∀ f ∈ fs, 0 ≤ f) (ha : 0 ≤ a) (hb : 0 ≤ b) (hab : a ≠ b) : ∀ (cuts : List Nat) (s f : Nat), StrLaws.ChainG (figText fs) (figText [a, b]) (figText fs).length s cuts f → (∀ k, f ≤ k → ¬ StrLaws.At (figText fs) (figText [a, b]) (figText fs).length k) →
    (Str.join (figText [b, a]) (StrLaws.partsFrom (figText fs) 2 s cuts)).cps.toList = (swp a b (fs.drop s)).map fun f => 65 + f.toNat
  | [], s, f, hc, hn => by
    have e : f = s := hc
    subst e
    show (Builtin.Str.strSub (figText fs) f (figText fs).length).cps.toList = _
    rw [swp_none _ _ (Nat.le_refl _) fun i hi => hn (f + i) (by omega) ((at_iff h ha hb _).mpr (by simpa [List.getElem?_drop, Nat.add_assoc] using hi))]
    rw [StrLaws.strSub_toList, fig_list, figText_len, ← List.map_drop, List.take_of_length_le (by simp)]
  | c :: r, s, f, hc, hn => by
    obtain ⟨h1, h2, h3, h4⟩ := hc
    have ih := swap_from h ha hb hab r (c + 2) f h4 hn
    obtain ⟨p, q, hpq⟩ := StrLaws.partsFrom_ne (figText fs) 2 (c + 2) r
    rw [hpq] at ih
    show (Str.join (figText [b, a]) (Builtin.Str.strSub (figText fs) s c :: StrLaws.partsFrom (figText fs) 2 (c + 2) r)).cps.toList = _
    rw [hpq, join_two, ih, StrLaws.strSub_toList, fig_list, ← List.map_drop, ← List.map_take]
    have hab2 := (at_iff h ha hb c).mp h2
    have hd : fs.drop c = a :: b :: fs.drop (c + 2) := by
      obtain ⟨hlt, e1⟩ := List.getElem?_eq_some_iff.mp hab2.1
      obtain ⟨hlt2, e2⟩ := List.getElem?_eq_some_iff.mp hab2.2
      rw [List.drop_eq_getElem_cons hlt, e1, List.drop_eq_getElem_cons hlt2, e2]
    have hs : fs.drop s = (fs.drop s).take (c - s) ++ a :: b :: fs.drop (c + 2) := by
      rw [← hd]
      have := (List.take_append_drop (c - s) (fs.drop s)).symm
      rw [List.drop_drop, show s + (c - s) = c from by omega] at this
      exact this
    have hsw : swp a b ((fs.drop s).take (c - s)) = (fs.drop s).take (c - s) := by
      refine swp_none _ _ (Nat.le_refl _) fun i hi => ?_
      have hi1 : i + 1 < c - s := by
        have := (List.getElem?_eq_some_iff.mp hi.2).1
        rw [List.length_take] at this
        omega
      rw [List.getElem?_take_of_lt (by omega), List.getElem?_take_of_lt hi1, List.getElem?_drop, List.getElem?_drop] at hi
      exact h3 (s + i) (by omega) (by omega) ((at_iff h ha hb _).mpr hi)
    have key : swp a b (fs.drop s) = (fs.drop s).take (c - s) ++ b :: a :: swp a b (fs.drop (c + 2)) := by
      rw [hs, swp_app _ _ _ (Nat.le_refl _) (fun e => hab (by simpa using e.2)), ← hs, hsw, swp_two, if_pos ⟨rfl, rfl⟩]
    rw [key]
    simp [fig_list]
theorem swap_text {a b : Int} {fs : List Int} (h : ∀ f ∈ fs, 0 ≤ f) (ha : 0 ≤ a) (hb : 0 ≤ b) (hab : a ≠ b) : Txt.replace (figText fs) (figText [a, b]) (figText [b, a]) = figText (swp a b fs) := by
  obtain ⟨f, hc, hn⟩ := StrLaws.occ_tight (figText fs) (figText [a, b]) (by rw [figText_len]; show 1 ≤ 2; decide)
  have key := swap_from h ha hb hab _ 0 f hc hn
  unfold Txt.replace
  have hz : ((figText [a, b]).length == 0 && (figText [b, a]).length == 0) = false := rfl
  rw [hz, Bool.or_false]
  apply str_ext
  rw [fig_list]
  cases ho : Builtin.Str.occurrences (figText fs) (figText [a, b]) 0 (figText fs).length ((figText fs).length + 1) with
  | nil =>
    rw [ho] at key
    rw [if_pos (show ([] : List Nat).isEmpty = true from rfl)]
    have e : (Str.join (figText [b, a]) (StrLaws.partsFrom (figText fs) 2 0 [])).cps.toList = (figText fs).cps.toList := congrArg (fun x : Str => x.cps.toList) (StrLaws.sub_whole (figText fs))
    exact e.symm.trans key
  | cons c r =>
    rw [ho] at key
    rw [if_neg (by simp), StrLaws.glued_eq_join, StrLaws.partsBetween_eq]
    exact key
end Mine
namespace Mine
open PySem PySem.W PyProof.Rows PySem.Spec PySem.Calls
abbrev noDict : Obj := { cls := .type "dict", data := .dict #[] }
section
variable {prog : Program} {w : World} {A : Around} {E : Value → Shared → Prop} {s : Shared} {env : Env} {h₀ : Heap} {L d : Addr} {m : Str → Option Value} {news : List (Addr × Obj)}
theorem dictSet_one {k : Str} {u : Tok} {v : Value} {Q : Unit → Shared → Prop} (ho : s.heap.get? d = some noDict)
    (h : ∀ h', h'.get? d = some (oneDict w k u v 1) → Heap.SameBut d s.heap h' → Q () { s with heap := h', toks := s.toks + 1 }) :
    wpAny (model prog w) A (dictSet d (.str k u) v) Q E s := by
  have hkey : (PySem.strKind prog w).is k (.str k u) = true := by simp [PySem.strKind, Value.isStrOf]
  unfold dictSet
  try with_reducible refine wpAny_holding ?_
  refine wpAny_bind ((PySem.strKind prog w).pyHash hkey ?_)
  unfold dictSetHashed
  try with_reducible refine wpAny_holding ?_
  refine wpAny_bind (wpAny_dictFind_of (knd := PySem.strKind prog w) (es := #[]) (s := { s with toks := s.toks + 1 }) hkey ho rfl (fun e he => by simp at he) ?_)
  have e0 : (Array.findIdx? (fun e : DictEntry => (PySem.strKind prog w).is k e.key) #[]) = none := by simp
  rw [e0]
  refine wpAny_bind (wpAny_rule (wpAny_updateDictKeys (f := (·.push ⟨hashStr w k, .str k u, v⟩)) (hz := Nat.zero_le _) (hf := Nat.le_refl 1) (s := { s with toks := s.toks + 1 }) ho rfl (h _ ?_ (Heap.SameBut.update ..))))
  exact Heap.get?_update_self _ ho (Obj.isFreed_of_dict (Obj.data_mapDictKeys rfl _))
def MadeOne (w : World) (d : Addr) (Q : Value → Shared → Prop) (kv vv : Value) (s₂ : Shared) : Prop :=
  ∃ k u, kv = .str k u ∧ s₂.heap.get? d = some noDict ∧ ∀ h', h'.get? d = some (oneDict w k u vv 1) → Heap.SameBut d s₂.heap h' → Q (.ref d) { s₂ with heap := h', toks := s₂.toks + 1 }
theorem MadeOne.intro {k : Str} {u : Tok} {v : Value} {Q : Value → Shared → Prop} (F : Fr h₀ L s.heap m) (N : News h₀ L s.heap ((d, noDict) :: news)) (hl : ∀ p ∈ news, p.1 < d)
    (h : ∀ h', Fr h₀ L h' m → News h₀ L h' ((d, oneDict w k u v 1) :: news) → Q (.ref d) { s with heap := h', toks := s.toks + 1 }) : MadeOne w d Q (.str k u) v s := by
  have hm := N _ (.head _)
  refine ⟨k, u, rfl, hm.1, fun h' he hs => h h' (F.change hs hm.2.1 hm.2.2) fun p hp => ?_⟩
  rcases List.mem_cons.mp hp with rfl | hp
  · exact ⟨he, hm.2⟩
  · exact ⟨hs.extBut _ _ (Nat.ne_of_lt (hl p hp)) (N p (.tail _ hp)).1, (N p (.tail _ hp)).2⟩
theorem Dict_one {ke ve : PySem.Expr} {pos : Pos} {Q : Value → Shared → Prop} (F : Fr h₀ L s.heap m) (N : News h₀ L s.heap news) (hbig : h₀.NoLimit)
    (h : ∀ (d : Addr) h', Fr h₀ L h' m → News h₀ L h' ((d, noDict) :: news) → (∀ p ∈ news, p.1 < d) → (d == sysModules) = false →
      wpAny (model prog w) A (eval ke env) (fun kv s₁ => wpAny (model prog w) A (eval ve env) (fun vv s₂ => MadeOne w d Q kv vv s₂) E s₁) E { s with heap := h' }) :
    wpAny (model prog w) A (eval (.Dict [some ke] [ve] pos) env) Q E s := by
  have e : eval (.Dict [some ke] [ve] pos) env = (do standAt pos; let d ← subDict (pairTrees [some ke] [ve] env pos); pure (.ref d) : Sem Value) := by
    rw [arm_eval_Dict]
    exact congrArg (fun t => (do standAt pos; t : Sem Value)) (dictDisplay_pairs (pairTrees [some ke] [ve] env pos) (List.cons_ne_nil _ _) (by show 1 < 17; decide))
  rw [e]
  refine wpAny_bind (wpAny_standAt (wpAny_bind ?_))
  unfold subDict
  refine wpAny_bind (wpAny_alloc ?_)
  refine wpAny_bind (wpAny_holding ?_)
  rw [if_pos (show (pairTrees [some ke] [ve] env pos).length ≤ 15 from by show 1 ≤ 15; decide)]
  have hN : News h₀ L (s.heap.push noDict) ((s.heap.objs.size, noDict) :: news) := news_pushed F N (fun b x e => Heap.get?_push_of_some _ e) (Heap.get?_push_size _ rfl) rfl
  refine wpAny_bind (pairTrees_cons_walk (wpAny_mono (h s.heap.objs.size _ (F.push _) hN (fun p hp => Heap.lt_size (N p hp).1) (F.notModules (modules_low hbig))) (fun kv s₁ h₁ => wpAny_mono h₁ (fun vv s₂ h₂ => ?_) fun _ _ e => e) fun _ _ e => e))
  refine evalPairs_nil ?_
  obtain ⟨k, u, rfl, hg, hq⟩ := h₂
  refine wpAny_holding ?_
  rw [List.forIn_cons]
  refine wpAny_bind (wpAny_bind (wpAny_bind (dictSet_one hg fun h' he hs => wpAny_pure ?_)))
  dsimp only
  rw [List.forIn_nil]
  exact wpAny_pure (wpAny_pure (wpAny_pure (wpAny_pure (hq h' he hs))))
end
end Mine
namespace Mine
open PySem PySem.W PyProof.Rows PySem.Spec PySem.Calls
structure TokOf (t n : Nat) : Prop where
  pos : 0 < t
  lt : t < n
structure TokMark2 : Prop where
theorem tokMark2 : TokMark2 := ⟨⟩
theorem toks_of {α : Type} {M : Model} {A : Around} {t : Sem α} {Q : α → Shared → Prop} {E : Value → Shared → Prop} {h : Heap} {g d o} {k u n : Nat} (_ : TokOf u n) (hn : n ≤ k) (hh : ∀ k, n ≤ k → wpAny M A t Q E ⟨h, g, d, k, o⟩) : wpAny M A t Q E ⟨h, g, d, k, o⟩ := hh k hn
section
variable {dp un : Nat} {w : World} {news : List (Addr × Obj)}
    {mean : ExcName → Option Value} {mg mb : Str → Option Value} {gd : Option (List Code)} {cn : Str} {cs : Scope} {a : Addr} {ccd : Value} {cl : List (Str × Addr)} {outer : List Env} {A₀ : Around} {base h₀ : Heap} {L : Addr} {m : Str → Option Value} {s : Shared} {Q E : Value → Shared → Prop}
theorem news_at {h : Heap} {x : Addr × Obj} (N : News h₀ L h news) (hm : x ∈ news) : News h₀ L h (x :: news) := fun p hp => by
  rcases List.mem_cons.mp hp with rfl | hp
  · exact N _ hm
  · exact N p hp
theorem settled_u {l : Addr} {vs : List Value} {ns : List Int} {c : Nat} {wait walk : Int} {t1 t2 : Tok}
    (B : Below A₀ base outer h₀) (F : Fr h₀ L s.heap m) (X : (hd.heap_39 w.params).In h₀) (N : News h₀ L s.heap news) (T : Top hd.view_39 (looseW hd.view_39 [Str.ofString "unescape"]) mean mg mb h₀) (hk : cs.kind = .function)
    (hm : (l, listOf vs.toArray c) ∈ news) (hi : IntsAre vs ns) (hlen : ns.length ≤ 15) (hab : wait ≠ walk) (hd' : dp + 16 < recursionLimit) (hu : un + 128 < cLine)
    (ret : ∀ aT aL us tM h' tk', s.toks ≤ tk' → Fr h₀ L h' m → News h₀ L h' ((aT, { cls := .type "tuple", data := .seq #[.ref aL, .int (settledMost wait walk ns) tM] }) :: (aL, listOf us.toArray 0) :: news) → IntsAre us (settledRow wait walk ns) → Q (.ref aT) { s with heap := h', toks := tk' }) :
    wpAny (model PySem.Challenge.rw_ik0011_01.row.prog w) (ktrTop dp un gd cn cs L a ccd cl outer) (call (.ref 54) [.ref l, .int wait t1, .int walk t2]) Q E s := by
  refine ct_use B F X (news_at N hm) T hk (settled_c w news l vs ns c wait walk t1 t2 hab hi hlen) hd' hu ?_
  rintro r tl h' tk' htk F' N' hl ⟨aT, aL, us, tM, rfl, rfl, hI⟩
  exact ret aT aL us tM h' tk' htk F' (kst_newsOf N' (by kst_anyIn)) hI
theorem moved_u {l : Addr} {vs : List Value} {ns : List Int} {c : Nat} {wait walk calls : Int} {t1 t2 t3 : Tok}
    (B : Below A₀ base outer h₀) (F : Fr h₀ L s.heap m) (X : (hd.heap_39 w.params).In h₀) (N : News h₀ L s.heap news) (T : Top hd.view_39 (looseW hd.view_39 [Str.ofString "unescape"]) mean mg mb h₀) (hk : cs.kind = .function)
    (hm : (l, listOf vs.toArray c) ∈ news) (hi : IntsAre vs ns) (hlen : ns.length ≤ 15) (hc0 : 0 ≤ calls) (hc1 : calls ≤ 100) (hd' : dp + 16 < recursionLimit) (hu : un + 128 < cLine)
    (ret : ∀ a us n h' tk', s.toks ≤ tk' → Fr h₀ L h' m → News h₀ L h' ((a, listOf (List.toArray us) n) :: news) → IntsAre us (moved ns wait walk calls) → Q (.ref a) { s with heap := h', toks := tk' }) :
    wpAny (model PySem.Challenge.rw_ik0011_01.row.prog w) (ktrTop dp un gd cn cs L a ccd cl outer) (call (.ref 47) [.ref l, .int wait t1, .int walk t2, .int calls t3]) Q E s := by
  refine ct_use B F X (news_at N hm) T hk (moved_c w news l vs ns c wait walk calls t1 t2 t3 hi hlen hc0 hc1) hd' hu ?_
  rintro r tl h' tk' htk F' N' hl ⟨a, us, n, rfl, rfl, hI⟩
  exact ret a us n h' tk' htk F' (kst_newsOf N' (by kst_anyIn)) hI
theorem row_u {l : Addr} {vs : List Value} {ns : List Int} {c : Nat}
    (B : Below A₀ base outer h₀) (F : Fr h₀ L s.heap m) (X : (hd.heap_39 w.params).In h₀) (N : News h₀ L s.heap news) (T : Top hd.view_39 (looseW hd.view_39 [Str.ofString "unescape"]) mean mg mb h₀) (hk : cs.kind = .function)
    (hm : (l, listOf vs.toArray c) ∈ news) (hi : IntsAre vs ns) (hf : Figs ns) (hd' : dp + 16 < recursionLimit) (hu : un + 128 < cLine)
    (ret : ∀ t h' tk', s.toks ≤ tk' → Fr h₀ L h' m → News h₀ L h' news → TokOf t tk' → Q (.str (figText ns) t) { s with heap := h', toks := tk' }) :
    wpAny (model PySem.Challenge.rw_ik0011_01.row.prog w) (ktrTop dp un gd cn cs L a ccd cl outer) (call (.ref 42) [.ref l]) Q E s := by
  refine ct_use B F X N T hk (row_c w news l vs ns c hm hi hf.1 hf.2) hd' hu ?_
  rintro r tl h' tk' htk F' N' hl ⟨rfl, t, rfl, h0, h1⟩
  exact ret t h' tk' htk F' N' ⟨h0, h1⟩
theorem figText_ne {x y : List Int} (h : x.head? ≠ y.head?) (hx : ∀ f ∈ x, 0 ≤ f) (hy : ∀ f ∈ y, 0 ≤ f) : figText x ≠ figText y := by
  intro e
  have e1 : x.map (fun f => 65 + f.toNat) = y.map fun f => 65 + f.toNat := by
    have := congrArg (fun z : Str => z.cps.toList) e
    simpa [figText] using this
  cases x with
  | nil => cases y with
    | nil => exact h rfl
    | cons b r => simp at e1
  | cons a q => cases y with
    | nil => simp at e1
    | cons b r =>
      have h1 := hx a (.head _)
      have h2 := hy b (.head _)
      simp only [List.map_cons, List.cons.injEq] at e1
      refine h ?_
      have : a = b := by omega
      rw [this]; rfl
theorem unesc_u {ns : List Int} {wait walk : Int} {d : Addr} {u t tx n : Nat}
    (B : Below A₀ base outer h₀) (F : Fr h₀ L s.heap m) (X : (hd.heap_39 w.params).In h₀) (N : News h₀ L s.heap news) (T : Top hd.view_39 (looseW hd.view_39 [Str.ofString "unescape"]) mean mg mb h₀) (hk : cs.kind = .function)
    (hm : (d, oneDict w (figText [wait, walk]) u (.str (figText [walk, wait]) t) n) ∈ news) (hf : Figs ns) (ha : 0 ≤ wait ∧ wait < 16) (hb : 0 ≤ walk ∧ walk < 16) (hab : wait ≠ walk) (h0 : 0 < u) (hut : u < t) (hlo : (d == sysModules) = false) (hd' : dp + 16 < recursionLimit) (hu : un + 128 < cLine)
    (ret : ∀ t' h' tk', s.toks ≤ tk' → Fr h₀ L h' m → News h₀ L h' news → Q (.str (figText (swp wait walk ns)) t') { s with heap := h', toks := tk' }) :
    wpAny (model PySem.Challenge.rw_ik0011_01.row.prog w) (ktrTop dp un gd cn cs L a ccd cl outer) (call (.ref 30) [.str (figText ns) tx, .ref d]) Q E s := by
  have p1 := plain_text ns
  have p2 := plain_text (swp wait walk ns)
  have hx := figText_len ns
  have hy := figText_len (swp wait walk ns)
  have hf1 := hf.1
  have hf2 := (hf.swp (a := wait) (b := walk)).1
  refine ct_use B F X N T hk (unesc_c w news (figText ns) (figText (swp wait walk ns)) (figText [wait, walk]) (figText [walk, wait]) tx u t d n (by omega) (by omega) (by rw [figText_len]; show 2 ≤ 14; decide) ?_ h0 (by omega) (by omega) p1.1 p1.2.1 (swap_text (fun f h => (hf.2 f h).1) ha.1 hb.1 hab) p2.2.2 hlo hm) hd' hu ?_
  · refine beq_eq_false_iff_ne.mpr (figText_ne (by simpa using hab) ?_ ?_)
    · intro f hf; simp at hf; rcases hf with rfl | rfl <;> omega
    · intro f hf; simp at hf; rcases hf with rfl | rfl <;> omega
  · rintro r tl h' tk' htk F' N' hl ⟨rfl, t, rfl⟩
    exact ret t h' tk' htk F' N'
end
def figOf (wait walk v : Int) : Int := [wait, wait, walk, walk, (v.fdiv 5).fmod 16].getD (v.fmod 5).toNat 0
theorem figOf_in {a b v : Int} (ha : 0 ≤ a ∧ a < 16) (hb : 0 ≤ b ∧ b < 16) : 0 ≤ figOf a b v ∧ figOf a b v < 16 := by
  have h1 := fmod_lo v (n := 5) (by decide)
  have h2 := fmod_hi v (n := 5) (by decide)
  have h3 := fmod_lo (v.fdiv 5) (n := 16) (by decide)
  have h4 := fmod_hi (v.fdiv 5) (n := 16) (by decide)
  unfold figOf
  generalize v.fmod 5 = k at h1 h2
  have : k = 0 ∨ k = 1 ∨ k = 2 ∨ k = 3 ∨ k = 4 := by omega
  rcases this with rfl | rfl | rfl | rfl | rfl
  · exact ha
  · exact ha
  · exact hb
  · exact hb
  · exact ⟨h3, h4⟩
theorem figs_ok {a b : Int} (ha : 0 ≤ a ∧ a < 16) (hb : 0 ≤ b ∧ b < 16) (l : List Int) : Figs (List.map (figOf a b) (List.take 10 l) ++ [a, b, a, b, b]) := by
  refine ⟨by simp; omega, fun f hf => ?_⟩
  rcases List.mem_append.mp hf with hf | hf
  · obtain ⟨v, _, rfl⟩ := List.mem_map.mp hf
    exact figOf_in ha hb
  · simp at hf
    rcases hf with rfl | rfl | rfl | rfl | rfl <;> assumption
theorem walk_ne {n a : Int} (_ : 0 ≤ a ∧ a < 16) : a ≠ (a + 1 + (n.fdiv 16).fmod 15).fmod 16 := by
  have h1 := fmod_lo (n.fdiv 16) (n := 15) (by decide)
  have h2 := fmod_hi (n.fdiv 16) (n := 15) (by decide)
  rw [Int.fmod_eq_emod_of_nonneg _ (by decide)]
  omega
theorem two_ok {a b : Int} (ha : 0 ≤ a ∧ a < 16) (hb : 0 ≤ b ∧ b < 16) : Figs [a, b] := by
  refine ⟨by show 2 ≤ 15; decide, fun f hf => ?_⟩
  simp at hf
  rcases hf with rfl | rfl <;> assumption
section
variable {prog : Program} {w : World} {A : Around} {E : Value → Shared → Prop} {s : Shared} {a b : Int} {t u : Tok} {Q : Value → Shared → Prop}
theorem pair_item1 {value slice : PySem.Expr} (h : Q (.str (figText [b]) s.toks) { s with toks := s.toks + 1 })
    (hs : subscripted slice false (.str (figText [a, b]) t) (.int 1 u) = operate [.str (figText [a, b]) t, .int 1 u] (getItem (.str (figText [a, b]) t) (.int 1 u)) := by with_unfolding_all rfl)
    (ht : ∀ r, letTemporaryGo value (.str (figText [a, b]) t) r = pure () := by intro _; with_unfolding_all rfl) :
    wpAny (model prog w) A (subscriptTail value slice (.str (figText [a, b]) t) (.int 1 u)) Q E s :=
  tail_of_ItemOn ⟨"str", _, F.slot_str_getitem.lookup, typeIs_str _ _ _, P.getItem_str (c := 65 + b.toNat) (by decide) (by rfl) h⟩ hs ht
theorem pair_item0 {value slice : PySem.Expr} (h : Q (.str (figText [a]) s.toks) { s with toks := s.toks + 1 })
    (hs : subscripted slice false (.str (figText [a, b]) t) (.int 0 u) = operate [.str (figText [a, b]) t, .int 0 u] (getItem (.str (figText [a, b]) t) (.int 0 u)) := by with_unfolding_all rfl)
    (ht : ∀ r, letTemporaryGo value (.str (figText [a, b]) t) r = pure () := by intro _; with_unfolding_all rfl) :
    wpAny (model prog w) A (subscriptTail value slice (.str (figText [a, b]) t) (.int 0 u)) Q E s :=
  tail_of_ItemOn ⟨"str", _, F.slot_str_getitem.lookup, typeIs_str _ _ _, P.getItem_str (c := 65 + a.toNat) (by decide) (by rfl) h⟩ hs ht
theorem pair_add (h : Q (.str (figText [b, a]) s.toks) { s with toks := s.toks + 1 }) : wpAny (model prog w) A (binaryOp .Add (.str (figText [b]) t) (.str (figText [a]) u)) Q E s :=
  P.add_str (show (Made.str (figText [b] ++ figText [a])).post Q s from ⟨by show 2 ≤ sizeLine; decide, h⟩)
end
def LwJ (NEWS : List (Addr × Obj)) (vF vT vL : Value) (fs : List Int) (a b : Int) (i : Nat) (m : Str → Option Value) (nx : List (Addr × Obj)) : Prop :=
  nx = NEWS ∧ m (Str.ofString "figures") = some vF ∧ m (Str.ofString "table") = some vT ∧ m (Str.ofString "last") = some vL ∧ ∃ tx, m (Str.ofString "text") = some (.str (figText (swn a b i fs)) tx)
theorem moved_at {a b : Int} (hab : a ≠ b) (fs : List Int) (i : Nat) : moved fs a b (1 + (i : Int)) = swn a b (i + 1) fs := by
  rw [show (1 + (i : Int)) = ((i + 1 : Nat) : Int) from by omega]
  exact moved_law hab fs (i + 1)
theorem lw_start {h₀ h : Heap} {L : Addr} {m : Str → Option Value} {news : List (Addr × Obj)} {vF vT vL : Value} {fs : List Int} {a b : Int} {tx : Tok} (_ : Fr h₀ L h m) (_ : News h₀ L h news)
    (h1 : m (Str.ofString "figures") = some vF) (h2 : m (Str.ofString "table") = some vT) (h3 : m (Str.ofString "last") = some vL) (h4 : m (Str.ofString "text") = some (.str (figText fs) tx)) : LwJ news vF vT vL fs a b 0 m news := ⟨rfl, h1, h2, h3, tx, h4⟩
theorem settled_at {a b most : Int} (hab : a ≠ b) (ha : 0 ≤ a) (hb : 0 ≤ b) (fs : List Int) (hm : settledMost a b fs = most) : swp a b (swn a b (most - 1).toNat fs) = settledRow a b fs :=
  (settled_inv hab ha hb fs).2 ((most - 1).toNat + 1) (by omega)
theorem settled_end {a b most : Int} (hab : a ≠ b) (ha : 0 ≤ a) (hb : 0 ≤ b) (fs : List Int) (hm : settledMost a b fs = most) : swp a b (swp a b (swn a b (most - 1).toNat fs)) = settledRow a b fs :=
  (settled_inv hab ha hb fs).2 ((most - 1).toNat + 1 + 1) (by omega)
end Mine
namespace Mine
open PySem PySem.W PyProof.Rows PySem.Spec PySem.Calls
local macro_rules | `(tactic| walk_at "eval ListComp") => `(tactic| (k_here; k_dflt (refine LCg.ListComp_U (F₀ := by k_asm) (by with_unfolding_all rfl) (by decide) (by rfl) (by decide) (by rfl) ?_)))
local macro_rules | `(tactic| walk_at "CompSrc") => `(tactic| (refine Stop.get ?_))
local macro_rules | `(tactic| walk_at "subscriptTail") => `(tactic| (k_here; (with_reducible show wpAny _ _ (subscriptTail _ _ (Value.ref _) (Value.int (Int.fmod _ _) _)) _ _ _); refine Stop.get ?_))
local macro_rules | `(tactic| walk_at "subscriptTail") => `(tactic| (k_here; (with_reducible show wpAny _ _ (subscriptTail _ _ (Value.str _ _) (Value.int 1 _)) _ _ _); (refine pair_item1 ?_ (by with_unfolding_all rfl) (by intro _; with_unfolding_all rfl)); (try dsimp only)))
local macro_rules | `(tactic| walk_at "subscriptTail") => `(tactic| (k_here; (with_reducible show wpAny _ _ (subscriptTail _ _ (Value.str _ _) (Value.int 0 _)) _ _ _); (refine pair_item0 ?_ (by with_unfolding_all rfl) (by intro _; with_unfolding_all rfl)); (try dsimp only)))
local macro_rules | `(tactic| walk_at "binaryOp Add str str") => `(tactic| (k_here; (refine pair_add ?_); (try dsimp only)))
local macro_rules | `(tactic| walk_at "binaryOp Add ref ref") => `(tactic| (k_here; (with_reducible show wpAny _ _ (binaryOp _ (Value.ref _) (Value.ref _)) _ _ _); k_dflt (refine' add_L ?k1 ?k2 ?k3 ?k4 ?k5 ?k6 ?k7 ?_; (case k1 => k_asm); (case k2 => k_asm); (case k3 => k_mem); (case k4 => k_mem); (case k5 => assumption); (case k6 => exact IntsAre.cons _ _ (IntsAre.cons _ _ (IntsAre.cons _ _ (IntsAre.cons _ _ (IntsAre.cons _ _ IntsAre.nil))))); (case k7 => ((try simp only [List.length_map, List.length_cons, List.length_nil]); omega))); intro D' z' h' F' N' l1 hI'; (try k_lt l1); (try k_sweep)))
local macro_rules | `(tactic| walk_at "call ref") => `(tactic| (k_here; (with_reducible show wpAny _ _ (call (Value.ref 54) [Value.ref _, Value.int _ _, Value.int _ _]) _ _ _); k_dflt (refine' settled_u ?k1 ?k2 ?k3 ?k4 ?k5 ?kK ?h0 ?h1 ?h2 ?h3 ?kd ?ku ?_; (case k1 => k_asm); (case k2 => k_asm); (case k3 => k_asm); (case k4 => k_asm); (case k5 => k_asm); (case kK => first | exact rfl | assumption); (case h0 => k_mem); (case h1 => assumption); (case h2 => assumption); (case h3 => assumption); (case kd => ktr_room); (case ku => ktr_units); k_whole); intro aT aL us tM h9 tk9 htk9 F9 N9 hI9; (try dsimp only); (try k_fold)))
local macro_rules | `(tactic| walk_at "call ref") => `(tactic| (k_here; (with_reducible show wpAny _ _ (call (Value.ref 42) [Value.ref _]) _ _ _); k_dflt (refine' row_u ?k1 ?k2 ?k3 ?k4 ?k5 ?kK ?h0 ?h1 ?h2 ?kd ?ku ?_; (case k1 => k_asm); (case k2 => k_asm); (case k3 => k_asm); (case k4 => k_asm); (case k5 => k_asm); (case kK => first | exact rfl | assumption); (case h0 => k_mem); (case h1 => first | exact IntsAre.cons _ _ (IntsAre.cons _ _ IntsAre.nil) | assumption); (case h2 => assumption); (case kd => ktr_room); (case ku => ktr_units); k_whole); intro tR h9 tk9 htk9 F9 N9 hTk9; (try dsimp only); (try k_fold)))
local macro_rules | `(tactic| walk_at "eval Dict") => `(tactic| (k_here; k_dflt (refine' Dict_one ?k1 ?k2 ?k3 ?_; (case k1 => k_asm); (case k2 => k_asm); (case k3 => exact TopRead.nolimit (by k_asm)); k_whole); intro dD hD FD ND lD hDl; (try dsimp only); (try k_fold)))
local macro_rules | `(tactic| walk_at "execs cons") => `(tactic| (k_here; (fail_if_success (rename TokMark2 => hTm)); (rename TokOf _ _ => hTk); (with_reducible show wpAny _ _ _ _ _ (Shared.mk _ _ _ (_ + 1) _)); have hTm := tokMark2; refine toks_of hTk (Nat.le_succ _) ?_; intro tkK hTl; (try dsimp only)))
local macro_rules | `(tactic| walk_at "exec For Name Call cons nil") => `(tactic| (k_here; (rename Fr _ _ _ _ => lF'); (with_unfolding_all refine' For_invVF lF' ?k1 ?k2 ?_; (case k1 => exact rfl); (case k2 => exact rfl); k_whole)))
local macro_rules | `(tactic| walk_at "pyIter ref") => `(tactic| ((with_reducible show wpAny _ _ (pyIter (Value.ref _)) (fun it s₂ => LoopAtV _ _ _ _ _ _ _ _ _ it s₂) _ _); refine Stop.get ?_))
local macro_rules | `(tactic| walk_at "call ref") => `(tactic| (k_here; (with_reducible show wpAny _ _ (call (Value.ref 47) [Value.ref _, Value.int _ _, Value.int _ _, Value.int _ _]) _ _ _); k_dflt (refine' moved_u ?k1 ?k2 ?k3 ?k4 ?k5 ?kK ?h0 ?h1 ?h2 ?h3 ?h4 ?kd ?ku ?_; (case k1 => k_asm); (case k2 => k_asm); (case k3 => k_asm); (case k4 => k_asm); (case k5 => k_asm); (case kK => first | exact rfl | assumption); (case h0 => k_mem); (case h1 => assumption); (case h2 => assumption); (case h3 => omega); (case h4 => omega); (case kd => ktr_room); (case ku => ktr_units); k_whole); intro aV usV nV h9 tk9 htk9 F9 N9 hI9; (try dsimp only); (try k_fold)))
local macro_rules | `(tactic| walk_at "call ref") => `(tactic| (k_here; (with_reducible show wpAny _ _ (call (Value.ref 30) [Value.str _ _, Value.ref _]) _ _ _); k_dflt (refine' unesc_u ?k1 ?k2 ?k3 ?k4 ?k5 ?kK ?h0 ?h1 ?h2 ?h3 ?h4 ?h5 ?h6 ?h7 ?kd ?ku ?_; (case k1 => k_asm); (case k2 => k_asm); (case k3 => k_asm); (case k4 => k_asm); (case k5 => k_asm); (case kK => first | exact rfl | assumption); (case h0 => k_mem); (case h1 => assumption); (case h2 => assumption); (case h3 => assumption); (case h4 => assumption); (case h5 => assumption); (case h6 => omega); (case h7 => assumption); (case kd => ktr_room); (case ku => ktr_units); k_whole); intro tU h9 tk9 htk9 F9 N9; (try dsimp only); (try k_fold)))
local macro_rules | `(tactic| walk_at "MadeOne") => `(tactic| (refine Stop.get ?_))
set_option maxRecDepth 100000 in
set_option maxHeartbeats 8000000 in
theorem lawX : PySem.Challenge.rw_ik0011_01.Holds := by
  w_top off
  refine hd ?_
  k_go0
  all_goals try k_fold
  k_steps
  refine ⟨?_⟩
  rename List Int => sc
  rename IntsAre _ (List.take 10 _) => hI
  rename (List.length (List.take 10 _) = _) => hC
  have hLl := hI.length
  have ha : 0 ≤ sc.sum.fmod 16 ∧ sc.sum.fmod 16 < 16 := ⟨fmod_lo _ (by decide), fmod_hi _ (by decide)⟩
  have hb : 0 ≤ (sc.sum.fmod 16 + 1 + (sc.sum.fdiv 16).fmod 15).fmod 16 ∧ (sc.sum.fmod 16 + 1 + (sc.sum.fdiv 16).fmod 15).fmod 16 < 16 := ⟨fmod_lo _ (by decide), fmod_hi _ (by decide)⟩
  have hab : sc.sum.fmod 16 ≠ (sc.sum.fmod 16 + 1 + (sc.sum.fdiv 16).fmod 15).fmod 16 := walk_ne ha
  have hFg := figs_ok ha hb sc
  have hFl := hFg.1
  have hF2 := two_ok ha hb
  refine LCg.CompSrc.ledger (by rfl) (by k_asm) (by k_asm) (by k_mem) (by rw [PySem.sizeLine_eq]; (simp only [List.size_toArray]); omega) ?_
  intro g'
  refine' kcf_list (figOf (sc.sum.fmod 16) ((sc.sum.fmod 16 + 1 + (sc.sum.fdiv 16).fmod 15).fmod 16)) hI (fun k' t' I' oI' C' oC' D' m' ys' h' tk' E' hk' hC' hx' F' N' off' ne' hMark' => ?_) ?_
  all_goals (try (simp only [LCg.Off3, and_true] at off'))
  · k_steps
    refine ⟨?_⟩
    refine item_L (by k_asm) (by k_mem) (IntsAre.cons _ _ (IntsAre.cons _ _ (IntsAre.cons _ _ (IntsAre.cons _ _ (IntsAre.cons _ _ IntsAre.nil))))) (fmod_lo _ (by decide)) (by have := fmod_hi k' (n := 5) (by decide); simp only [List.length_cons, List.length_nil]; omega) (by show 5 ≤ 1000; decide) ?_ (by with_unfolding_all rfl)
    intro tI
    k_steps
    exact kcf_el rfl rfl rfl
  · unfold KPfDone
    intro ys hys
    k_steps
    refine ⟨?_⟩
    rename TokOf _ _ => hTk
    rename News _ _ _ ((_, noDict) :: _) => ND
    rename (∀ p ∈ _, _ < _) => lD
    refine MadeOne.intro (by k_asm) ND lD ?_
    clear ND
    intro hDn FDn NDn
    have hut := hTk.lt
    have hu0 := hTk.pos
    k_steps
    refine ⟨?_⟩
    rename Fr _ _ _ _ => F1
    rename News _ _ _ _ => N1
    rename IsRange _ _ _ _ _ _ _ _ => R1
    rename ((_ == sysModules) = false) => hdl
    have hmost := (settled_inv hab ha.1 hb.1 (List.map (figOf (sc.sum.fmod 16) ((sc.sum.fmod 16 + 1 + (sc.sum.fdiv 16).fmod 15).fmod 16)) (List.take 10 sc) ++ [sc.sum.fmod 16, (sc.sum.fmod 16 + 1 + (sc.sum.fdiv 16).fmod 15).fmod 16, sc.sum.fmod 16, (sc.sum.fmod 16 + 1 + (sc.sum.fdiv 16).fmod 15).fmod 16, (sc.sum.fmod 16 + 1 + (sc.sum.fdiv 16).fmod 15).fmod 16])).1
    generalize hmm : settledMost _ _ _ = most at R1 F1 N1 hmost
    generalize hfs : (List.map (figOf (sc.sum.fmod 16) ((sc.sum.fmod 16 + 1 + (sc.sum.fdiv 16).fmod 15).fmod 16)) (List.take 10 sc) ++ [sc.sum.fmod 16, (sc.sum.fmod 16 + 1 + (sc.sum.fdiv 16).fmod 15).fmod 16, sc.sum.fmod 16, (sc.sum.fmod 16 + 1 + (sc.sum.fdiv 16).fmod 15).fmod 16, (sc.sum.fmod 16 + 1 + (sc.sum.fdiv 16).fmod 15).fmod 16]) = fs at *
    have hJ := lw_start (a := sc.sum.fmod 16) (b := ((sc.sum.fmod 16 + 1 + (sc.sum.fdiv 16).fmod 15).fmod 16)) (fs := fs) F1 N1 (by (dsimp only; (repeat (first | rw [if_pos rfl] | rw [if_neg (by decide)])); all_goals rfl)) (by (dsimp only; (repeat (first | rw [if_pos rfl] | rw [if_neg (by decide)])); all_goals rfl)) (by (dsimp only; (repeat (first | rw [if_pos rfl] | rw [if_neg (by decide)])); all_goals rfl)) (by (dsimp only; (repeat (first | rw [if_pos rfl] | rw [if_neg (by decide)])); all_goals rfl))
    refine loop_R (n := (most - 1).toNat) (LwJ _ _ _ _ fs _ _) (by rfl) R1 (by exact small_one (by omega) (by omega) (by omega) (by omega)) (by exact rangeSize_nat _ _) F1 N1 hJ ?turn ?done
    case turn =>
      clear F1 N1 R1 hJ
      rintro i tI m₁ nx h tk own hlt hoff ⟨rfl, m1, m2, m3, tx, m4⟩ F₁ N₁
      replace F₁ := fr_at [(Str.ofString "figures", _), (Str.ofString "table", _), (Str.ofString "last", _), (Str.ofString "text", _)] (List.forall_mem_cons.mpr ⟨m1, List.forall_mem_cons.mpr ⟨m2, List.forall_mem_cons.mpr ⟨m3, List.forall_mem_cons.mpr ⟨m4, fun _ h => nomatch h⟩⟩⟩⟩) F₁
      dsimp only [kstB] at F₁
      simp only [List.cons_append] at N₁
      have hFi := hFg.swn (a := sc.sum.fmod 16) (b := ((sc.sum.fmod 16 + 1 + (sc.sum.fdiv 16).fmod 15).fmod 16)) i
      have hmv := moved_at hab fs i
      have hFm := hFg.swn (a := sc.sum.fmod 16) (b := ((sc.sum.fmod 16 + 1 + (sc.sum.fdiv 16).fmod 15).fmod 16)) (i + 1)
      rw [← hmv] at hFm
      k_steps
      · rename ((_ != _) = true) => hne
        exact absurd hne (by rw [hmv]; simp [swn])
      · rename Fr _ _ _ _ => Fz
        rename News _ _ _ _ => Nz
        refine' tbEnd_intro Fz Nz ?_ ?_ ?_ ?_
        rotate_left
        · exact ⟨rfl, by (dsimp only; (repeat (first | rw [if_pos rfl] | rw [if_neg (by decide)])); all_goals rfl), by (dsimp only; (repeat (first | rw [if_pos rfl] | rw [if_neg (by decide)])); all_goals rfl), by (dsimp only; (repeat (first | rw [if_pos rfl] | rw [if_neg (by decide)])); all_goals rfl), _, by (dsimp only; (repeat (first | rw [if_pos rfl] | rw [if_neg (by decide)])); all_goals rfl)⟩
        · kst_anyIn
        · kst_anyIn
        · exact hoff
    case done =>
      clear F1 N1 R1 hJ
      rintro m₁ nx h tk ⟨rfl, m1, m2, m3, tx, m4⟩ F₁ N₁
      replace F₁ := fr_at' [(Str.ofString "figures", _), (Str.ofString "table", _), (Str.ofString "last", _), (Str.ofString "text", _)] (List.forall_mem_cons.mpr ⟨m1, List.forall_mem_cons.mpr ⟨m2, List.forall_mem_cons.mpr ⟨m3, List.forall_mem_cons.mpr ⟨m4, fun _ h => nomatch h⟩⟩⟩⟩) F₁
      dsimp only [kstB] at F₁
      have hFi := hFg.swn (a := sc.sum.fmod 16) (b := ((sc.sum.fmod 16 + 1 + (sc.sum.fdiv 16).fmod 15).fmod 16)) (most - 1).toNat
      have hFj := hFi.swp (a := sc.sum.fmod 16) (b := ((sc.sum.fmod 16 + 1 + (sc.sum.fdiv 16).fmod 15).fmod 16))
      have hS1 := settled_at hab ha.1 hb.1 fs hmm
      have hS2 := settled_end hab ha.1 hb.1 fs hmm
      have hFs := hFj
      rw [hS1] at hFs
      k_steps
end Mine
set_option maxRecDepth 100000 in
set_option maxHeartbeats 8000000 in
theorem PySem.Challenge.cw_ik0011_01_holds : PySem.Challenge.rw_ik0011_01.Holds := by
  exact Mine.lawX
