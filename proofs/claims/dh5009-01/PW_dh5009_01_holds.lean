import PyProof.Rows.All
import Wide.All
import OpenK.AllK
import Wide.FinOn
import PySem.Challenge.RW_dh5009_01
open PySem PySem.W PyProof.Rows
set_option Elab.async false
namespace Mine
set_option maxRecDepth 100000 in
set_option maxHeartbeats 8000000 in
open_top hd for PySem.Challenge.rw_dh5009_01
section
section
open PySem.Float64 PySem.Flt
theorem fl_rep {n k : Nat} (hk : 52 ≤ k) (hn : n < 2 ^ 53) : ∃ t, V t = n * 2 ^ k := by
  by_cases h0 : n = 0
  · exact ⟨0, by rw [h0, V_zero, Nat.zero_mul]⟩
  · have hl : n.log2 < 53 := (Nat.log2_lt h0).mpr hn
    have h1 : 2 ^ n.log2 ≤ n := Nat.log2_self_le h0
    have h2 : n < 2 ^ (n.log2 + 1) := Nat.lt_log2_self
    refine ⟨(k - (52 - n.log2)) * 2 ^ 52 + n * 2 ^ (52 - n.log2), ?_⟩
    rw [V_at]
    · rw [Nat.mul_assoc, ← Nat.pow_add]
      congr 2
      omega
    · refine Nat.le_of_lt (Nat.lt_of_lt_of_le (Nat.mul_lt_mul_of_pos_right h2 (Nat.two_pow_pos _)) ?_)
      rw [← Nat.pow_add]
      exact Nat.pow_le_pow_right (by decide) (by omega)
    · refine .inl (Nat.le_trans ?_ (Nat.mul_le_mul_right _ h1))
      rw [← Nat.pow_add]
      exact Nat.pow_le_pow_right (by decide) (by omega)
theorem fl_exact {r : UInt64} {neg : Bool} {W D c : Nat} (hD : 0 < D) (R : Right r neg W D) (hc : W = D * c) (hrep : ∃ t, V t = c) (hlt : 2 * c < (2 ^ 54 - 1) * 2 ^ 2045) :
    val r = sgn neg c ∧ ∃ m e, decode r = .fin neg m e := by
  obtain ⟨t, rfl, _, hov, hr⟩ := R
  have ht : t < infMag := by
    rcases Nat.lt_or_ge t infMag with q | q
    · exact q
    · have : t = infMag := by omega
      have := hov.mp this
      rw [hc] at this
      have h2 : D * ((2 ^ 54 - 1) * 2 ^ 2045) ≤ D * (2 * c) := by
        rw [show D * (2 * c) = 2 * (D * c) by ac_rfl]; exact this
      exact absurd (Nat.le_of_mul_le_mul_left h2 hD) (Nat.not_le.mpr hlt)
  obtain ⟨t', ht'⟩ := hrep
  have h1 := (hr ht t').1
  rw [ht', hc] at h1
  have hV : V t = c := by
    have z : dist (D * c) (D * c) = 0 := by unfold dist; omega
    rw [z] at h1
    have : D * V t = D * c := by
      unfold dist at h1
      omega
    exact Nat.eq_of_mul_eq_mul_left hD this
  obtain ⟨m, e, hd, _⟩ := decode_pack neg ht
  exact ⟨by rw [val_pack neg ht, hV], m, e, hd⟩
theorem fl_small {n k : Nat} (hk : k ≤ 1074) (hn : n < 2 ^ 53) : 2 * (n * 2 ^ k) < (2 ^ 54 - 1) * 2 ^ 2045 := by
  have h1 : n * 2 ^ k ≤ 2 ^ 53 * 2 ^ 1074 := Nat.mul_le_mul (Nat.le_of_lt hn) (Nat.pow_le_pow_right (by decide) hk)
  have h2 : (2 : Nat) * (2 ^ 53 * 2 ^ 1074) < (2 ^ 54 - 1) * 2 ^ 2045 := by decide +kernel
  omega
theorem fl_two : val (ofInt 2) = ((2 ^ 1075 : Nat) : Int) ∧ ∃ m e, decode (ofInt 2) = .fin false m e := by
  refine ⟨by decide +kernel, ?_⟩
  have : ofInt 2 = pack false (1024 * 2 ^ 52) := by decide +kernel
  rw [this]
  obtain ⟨m, e, h, _⟩ := decode_pack false (t := 1024 * 2 ^ 52) (by decide)
  exact ⟨m, e, h⟩
theorem fl_sgn (x : Int) : sgn (decide (x < 0)) x.natAbs = x := by
  unfold sgn
  by_cases h : x < 0
  · rw [if_pos (by simpa using h)]; omega
  · rw [if_neg (by simpa using h)]; omega
theorem fl_p0 : (2 : Nat) ^ 1074 = 2 ^ 1073 * 2 := Nat.pow_succ 2 1073
theorem fl_p1 : (2 : Nat) ^ 1075 = 2 ^ 1074 * 2 := Nat.pow_succ 2 1074
theorem fl_pow (a : Nat) : a * 2 ^ 1074 * 1 = a * 2 ^ 1073 * 2 := by
  rw [fl_p0]
  generalize (2 : Nat) ^ 1073 = K
  rw [Nat.mul_one, Nat.mul_assoc]
theorem fl_pow2 (a : Nat) : 2 ^ 1075 * (a * 2 ^ 1073) = 2 ^ 1074 * (a * 2 ^ 1074) := by
  rw [fl_p1, fl_p0]
  generalize (2 : Nat) ^ 1073 = K
  ac_rfl
theorem fl_cast (x : Int) : sgn (decide (x < 0)) (x.natAbs * 2 ^ 1074) = x * ((2 ^ 1074 : Nat) : Int) := by
  rw [sgn_mul, fl_sgn]
/-- half of a small int as a float, doubled, is the int -/
theorem fl_half {x : Int} (hx : x.natAbs < 2 ^ 52) :
    isInf (ofFrac (decide (x < 0) != decide ((2 : Int) < 0)) x.natAbs (Int.natAbs 2)) = false ∧
    cmpInt (mul (ofInt 2) (ofFrac (decide (x < 0) != decide ((2 : Int) < 0)) x.natAbs (Int.natAbs 2))) x = some .eq := by
  have hb : (decide (x < 0) != decide ((2 : Int) < 0)) = decide (x < 0) := by simp
  rw [hb]
  have R1 : Right (ofFrac (decide (x < 0)) x.natAbs (Int.natAbs 2)) (decide (x < 0)) (x.natAbs * 2 ^ 1073) 1 :=
    ofFrac_right (by decide) (fl_pow _) (by decide)
  obtain ⟨v1, m1, e1, d1⟩ := fl_exact (by decide) R1 (Nat.one_mul _).symm (fl_rep (by decide) (by omega)) (fl_small (by decide) (by omega))
  obtain ⟨v2, m2, e2, d2⟩ := fl_two
  refine ⟨?_, ?_⟩
  · unfold isInf
    rw [d1]
  · have R2 := mul_right d2 d1
    rw [v1, v2, sgn_natAbs, Int.natAbs_natCast] at R2
    obtain ⟨v3, m3, e3, d3⟩ := fl_exact (Nat.two_pow_pos _) R2 (fl_pow2 _) (fl_rep (by decide) (by omega)) (fl_small (by decide) (by omega))
    rw [cmpInt_right d3, v3]
    congr 1
    have : sgn (false != decide (x < 0)) (x.natAbs * 2 ^ 1074) = x * ((2 ^ 1074 : Nat) : Int) := by
      rw [← fl_cast, Bool.false_bne]
    rw [this]
    have h2 : ((2 ^ 1074 : Nat) : Int) = 2 ^ 1074 := by
      rw [Int.natCast_pow]; rfl
    rw [h2]
    exact Std.ReflCmp.compare_self
end
end
section
section
variable {prog : Program} {w : World} {A : Around} {E : Value → Shared → Prop} {s : Shared} {env : Env} {h₀ : Heap} {x : Str} {body : List Stmt} {Q : Flow → Shared → Prop}
/-- the end of a turn: the frame, the iterator's object, the ledger's entries at their addresses -/
def TEnd (h₀ : Heap) (L : Addr) (J : (Str → Option Value) → List (Addr × Obj) → Prop) (p₀ : Addr × Obj) (adr : List Addr) (s₁ s₂ : Shared) : Prop :=
  ∃ h' tk m' all nx, s₂ = { s₁ with heap := h', toks := tk } ∧ Fr h₀ L h' m' ∧ News h₀ L h' all ∧ (∀ p ∈ p₀ :: nx, p ∈ all) ∧ nx.map (·.1) = adr ∧ J m' nx
def TPost (h₀ : Heap) (L : Addr) (J : (Str → Option Value) → List (Addr × Obj) → Prop) (p₀ : Addr × Obj) (adr : List Addr) (s₁ : Shared) (Q : Flow → Shared → Prop) (f : Flow) (s₂ : Shared) : Prop :=
  match f with
  | .ret v => Q (.ret v) s₂
  | .brk => Q .next s₂
  | _ => TEnd h₀ L J p₀ adr s₁ s₂
theorem TEnd.mk {L : Addr} {J : (Str → Option Value) → List (Addr × Obj) → Prop} {p₀ : Addr × Obj} {adr : List Addr} {s₁ : Shared} {h' : Heap} {tk : Nat} {m' : Str → Option Value} {all : List (Addr × Obj)} (nx : List (Addr × Obj))
    (F : Fr h₀ L h' m') (N : News h₀ L h' all) (hs : ∀ p ∈ p₀ :: nx, p ∈ all) (ha : nx.map (·.1) = adr) (hJ : J m' nx) : TEnd h₀ L J p₀ adr s₁ { s₁ with heap := h', toks := tk } :=
  ⟨h', tk, m', all, nx, rfl, F, N, hs, ha, hJ⟩

theorem loop_law {I : Addr} {fp : List Addr} {n : Nat} {P : Nat → Value → Prop} {St : Nat → Heap → Prop} {m₀ : Str → Option Value} {news : List (Addr × Obj)} (J : Nat → (Str → Option Value) → List (Addr × Obj) → Prop)
    (W : Walks prog w A I fp [I] n P St) (hIf : I ∈ fp) (hfp : ∀ b ∈ fp, b ≠ I → ∃ o, h₀.get? b = some o) (hLf : env.locals ∉ fp) (hI₀ : h₀.get? I = none) (hnw : ∀ p ∈ news, p.1 < I) (hSt : ∀ i h, St i h → ∃ o, h.get? I = some o)
    (hst : St 0 s.heap) (F : Fr h₀ env.locals s.heap m₀) (N : News h₀ env.locals s.heap news) (hj : J 0 m₀ news)
    (turn : ∀ i v m₁ nx h tk oI, i < n → P i v → J i m₁ nx → nx.map (·.1) = news.map (·.1) → (∀ p ∈ nx, p.1 < I) → Fr h₀ env.locals h (fun y => if y = x then some v else m₁ y) → News h₀ env.locals h (nx ++ [(I, oI)]) →
      wpAny (model prog w) A (execs body env) (TPost h₀ env.locals (J (i + 1)) (I, oI) (news.map (·.1)) { s with heap := h, toks := tk } Q) E { s with heap := h, toks := tk })
    (done : ∀ m₁ nx h tk, J n m₁ nx → nx.map (·.1) = news.map (·.1) → Fr h₀ env.locals h m₁ → News h₀ env.locals h nx → Q .next { s with heap := h, toks := tk }) :
    LoopAtV prog w A h₀ env x body Q E (.ref I) s := by
  refine ⟨I, fp, [I], n, P, St, m₀, news, (fun i m nx => J i m nx ∧ nx.map (·.1) = news.map (·.1)), rfl, W, hLf, ?_, ?_, hst, F, N, ⟨hj, rfl⟩, ?_, ?_⟩
  · intro b hb
    rw [List.mem_singleton.mp hb]
    exact hI₀
  · intro p hp hI
    have := hnw p hp
    rw [List.mem_singleton.mp hI] at this
    exact Nat.lt_irrefl _ this
  · rintro i v m₁ nx s₁ own ⟨h, tk, rfl⟩ hin hP ⟨hJ, ha⟩ hoff hsub _ hall hs F₁ N₁
    obtain ⟨oI, hoI⟩ := hSt _ _ hs
    have below : ∀ p ∈ nx, p.1 < I := fun p hp => by
      have : p.1 ∈ nx.map (·.1) := List.mem_map.mpr ⟨p, hp, rfl⟩
      rw [ha] at this
      obtain ⟨q, hq, e⟩ := List.mem_map.mp this
      exact e ▸ hnw q hq
    have one : ∀ p ∈ own, p = (I, oI) := fun p hp => by
      have a := N₁ p (List.mem_append_left _ hp)
      have b : p.1 = I := Decidable.byContradiction fun q => by
        obtain ⟨o, ho⟩ := hfp p.1 (hsub p hp) q
        rw [a.2.2] at ho
        cases ho
      have c := a.1
      rw [b] at c
      exact Prod.ext b (Option.some.inj (c.symm.trans hoI))
    have N₂ : News h₀ env.locals h (nx ++ [(I, oI)]) := fun p hp => by
      rcases List.mem_append.mp hp with q | q
      · exact N₁ p (List.mem_append_right _ q)
      · rw [List.mem_singleton.mp q]
        exact N₁ _ (List.mem_append_left _ (hall I hIf hI₀ oI hoI))
    refine wpAny_mono (turn i v m₁ nx h tk oI hin hP hJ ha below F₁ N₂) (fun f s₂ p => ?_) fun _ _ e => e
    have fin : TEnd h₀ env.locals (J (i + 1)) (I, oI) (news.map (·.1)) { s with heap := h, toks := tk } s₂ →
        LoopStepU h₀ env.locals [I] own (fun m nx => J (i + 1) m nx ∧ nx.map (·.1) = news.map (·.1)) { s with heap := h, toks := tk } .next s₂ := by
      rintro ⟨h', tk', m', all, nx', e, F', N', hs', ha', hJ'⟩
      refine ⟨rfl, h', tk', m', nx', e, F', fun p hp => ?_, fun p hp hI => ?_, hJ', ha'⟩
      · rcases List.mem_append.mp hp with q | q
        · rw [one p q]
          exact N' _ (hs' _ List.mem_cons_self)
        · exact N' _ (hs' _ (List.mem_cons_of_mem _ q))
      · have : p.1 ∈ nx'.map (·.1) := List.mem_map.mpr ⟨p, hp, rfl⟩
        rw [ha'] at this
        obtain ⟨q, hq, e⟩ := List.mem_map.mp this
        have := hnw q hq
        rw [e, List.mem_singleton.mp hI] at this
        exact Nat.lt_irrefl _ this
    cases f with
    | ret v => exact .ret p
    | brk => exact .brk p
    | next => exact .next (fin p)
    | cont => exact .cont (fin p)
  · rintro h' tk m' news' F' N' _ ⟨hJ, ha⟩
    exact done m' news' h' tk hJ ha F' N'

theorem loop_list {l : Addr} {vs : List Value} {m₀ : Str → Option Value} {news : List (Addr × Obj)} (J : Nat → (Str → Option Value) → List (Addr × Obj) → Prop)
    (hh : A.handled = none) (hl : h₀.IsList l vs.toArray) (F : Fr h₀ env.locals s.heap m₀) (N : News h₀ env.locals s.heap news) (hj : J 0 m₀ news)
    (turn : ∀ i v m₁ nx h tk I oI, vs[i]? = some v → J i m₁ nx → nx.map (·.1) = news.map (·.1) → (∀ p ∈ nx, p.1 < I) → Fr h₀ env.locals h (fun y => if y = x then some v else m₁ y) → News h₀ env.locals h (nx ++ [(I, oI)]) →
      wpAny (model prog w) A (execs body env) (TPost h₀ env.locals (J (i + 1)) (I, oI) (news.map (·.1)) { s with heap := h, toks := tk } Q) E { s with heap := h, toks := tk })
    (done : ∀ m₁ nx h tk, J vs.length m₁ nx → nx.map (·.1) = news.map (·.1) → Fr h₀ env.locals h m₁ → News h₀ env.locals h nx → Q .next { s with heap := h, toks := tk }) :
    wpAny (model prog w) A (pyIter (.ref l)) (fun it s₂ => LoopAtV prog w A h₀ env x body Q E it s₂) E s := by
  have hls : s.heap.IsList l vs.toArray := hl.at fun o e => F.keep l o e
  obtain ⟨ol, hol, _⟩ := id hl
  have hlt : l < h₀.objs.size := Heap.lt_size hol
  have hL : env.locals < s.heap.objs.size := F.ns.lt
  have hab := F.above
  have hne : l ≠ s.heap.objs.size := Nat.ne_of_lt (Nat.lt_trans (Nat.lt_of_lt_of_le hlt hab) hL)
  refine wpAny_pyIter_list hls ?_
  have W := Walks.list (prog := prog) (w := w) hh s.heap.objs.size l hne vs.toArray
  have hsz : vs.toArray.size = vs.length := List.size_toArray
  refine loop_law J W List.mem_cons_self (fun b hb q => ?_) (fun hm => ?_) (next_is_new F) (fun p hp => Heap.lt_size (N p hp).1) (fun i h st => ?_) ⟨⟨_, Heap.get?_push_size _ rfl, rfl, rfl⟩, hls.at fun o e => Heap.get?_push_of_some _ e⟩ (F.push _)
    (fun p hp => ⟨Heap.get?_push_of_some _ (N p hp).1, (N p hp).2⟩) hj (fun i v m₁ nx h tk oI hin hP hJ ha hb F₁ N₁ => turn i v m₁ nx h tk _ oI (by simpa using hP) hJ ha hb F₁ N₁) (fun m₁ nx h tk hJ => done m₁ nx h tk (hsz ▸ hJ))
  · rcases List.mem_cons.mp hb with e | hb
    · exact absurd e q
    · rw [List.mem_singleton.mp hb]
      exact ⟨ol, hol⟩
  · rcases List.mem_cons.mp hm with e | hm
    · exact absurd hL (e ▸ Nat.lt_irrefl _)
    · exact absurd (Nat.lt_of_lt_of_le hlt hab) ((List.mem_singleton.mp hm) ▸ Nat.lt_irrefl _)
  · obtain ⟨o, e, _⟩ := st.1
    exact ⟨o, e⟩

theorem loop_range {r : Addr} {a₀ b₀ : Int} {t₀ u₀ v₀ : Tok} {n : Nat} {m₀ : Str → Option Value} {news : List (Addr × Obj)} (J : Nat → (Str → Option Value) → List (Addr × Obj) → Prop)
    (hh : A.handled = none) (hr : IsRange s.heap r a₀ b₀ 1 t₀ u₀ v₀) (h1 : -(2 ^ 62) ≤ a₀) (h2 : a₀ < 2 ^ 62) (h3 : -(2 ^ 62) ≤ b₀) (h4 : b₀ < 2 ^ 62) (hn : (b₀ - a₀).toNat = n) (F : Fr h₀ env.locals s.heap m₀) (N : News h₀ env.locals s.heap news) (hj : J 0 m₀ news)
    (turn : ∀ i t m₁ nx h tk I oI, i < n → J i m₁ nx → nx.map (·.1) = news.map (·.1) → (∀ p ∈ nx, p.1 < I) → Fr h₀ env.locals h (fun y => if y = x then some (.int (a₀ + (i : Int)) t) else m₁ y) → News h₀ env.locals h (nx ++ [(I, oI)]) →
      wpAny (model prog w) A (execs body env) (TPost h₀ env.locals (J (i + 1)) (I, oI) (news.map (·.1)) { s with heap := h, toks := tk } Q) E { s with heap := h, toks := tk })
    (done : ∀ m₁ nx h tk, J n m₁ nx → nx.map (·.1) = news.map (·.1) → Fr h₀ env.locals h m₁ → News h₀ env.locals h nx → Q .next { s with heap := h, toks := tk }) :
    wpAny (model prog w) A (pyIter (.ref r)) (fun it s₂ => LoopAtV prog w A h₀ env x body Q E it s₂) E s := by
  subst hn
  have hL : env.locals < s.heap.objs.size := F.ns.lt
  refine wpAny_pyIter_range hr (small_one h1 h2 h3 h4) ?_
  have W := LCg.range_walks (prog := prog) (w := w) (I := s.heap.objs.size) hh a₀ (b₀ - a₀).toNat
  refine loop_law J W (List.mem_singleton.mpr rfl) (fun b hb q => absurd (List.mem_singleton.mp hb) q) (fun hm => ?_) (next_is_new F) (fun p hp => Heap.lt_size (N p hp).1) (fun i h st => ⟨_, st⟩) (by show IsRangeIter _ _ _ _ _; rw [rangeSize_nat]; simpa using Heap.get?_push_size _ rfl) (F.push _)
    (fun p hp => ⟨Heap.get?_push_of_some _ (N p hp).1, (N p hp).2⟩) hj (fun i v m₁ nx h tk oI hin hP hJ ha hb F₁ N₁ => ?_) done
  · exact absurd hL ((List.mem_singleton.mp hm) ▸ Nat.lt_irrefl _)
  · obtain ⟨t, rfl⟩ := hP
    exact turn i t m₁ nx h tk _ oI hin hJ ha hb F₁ N₁
end
theorem frq {m : Str → Option Value} {x : Str} {v : Value} (h : m x = some v) : m = fun y => if y = x then some v else m y := by
  funext y
  by_cases e : y = x
  · subst e; simp [h]
  · simp [e]
theorem nodup_len {α : Type} [DecidableEq α] : ∀ {l xs : List α}, l.Nodup → (∀ a ∈ l, a ∈ xs) → l.length ≤ xs.length
  | [], _, _, _ => Nat.zero_le _
  | a :: l, xs, hnd, hs => by
    have ha := hs a List.mem_cons_self
    have h1 := List.nodup_cons.mp hnd
    have := nodup_len (l := l) (xs := xs.erase a) h1.2 fun b hb => (List.mem_erase_of_ne (by rintro rfl; exact h1.1 hb)).mpr (hs b (List.mem_cons_of_mem _ hb))
    rw [List.length_erase_of_mem ha] at this
    have hp : 0 < xs.length := List.length_pos_of_mem ha
    simp only [List.length_cons]
    omega
theorem free_place {xs : List Int} (hx : xs.length < 1009) (x : Int) : ∃ n : Nat, (x + (n : Int)) % 1009 ∉ xs := by
  apply Classical.byContradiction
  intro hno
  have hall : ∀ n : Nat, (x + (n : Int)) % 1009 ∈ xs := fun n => Classical.byContradiction fun h => hno ⟨n, h⟩
  have h := nodup_len (l := (List.range 1009).map fun n : Nat => (x + (n : Int)) % 1009) (xs := xs) ?_ ?_
  · simp at h; omega
  · rw [List.nodup_iff_pairwise_ne, List.pairwise_map]
    refine List.Pairwise.imp_of_mem ?_ (List.nodup_range (n := 1009))
    intro a b ha hb hne
    simp only [List.mem_range] at ha hb
    omega
  · intro a ha
    obtain ⟨n, _, rfl⟩ := List.mem_map.mp ha
    exact hall n
theorem news_add {h₀ h h' : Heap} {L D : Addr} {m : Str → Option Value} {news : List (Addr × Obj)} {o : Obj} (F : Fr h₀ L h m) (N : News h₀ L h news) (k : ∀ b o, h.get? b = some o → h'.get? b = some o) (hn : h.get? D = none) (ho : h'.get? D = some o) :
    News h₀ L h' ((D, o) :: news) := fun p hp => by
  rcases List.mem_cons.mp hp with rfl | hp
  · refine ⟨ho, ?_, ?_⟩
    · rintro rfl
      obtain ⟨oL, _, _, e, _⟩ := F.ns
      rw [hn] at e
      cases e
    · cases e : h₀.get? D with
      | none => rfl
      | some o' =>
        rw [F.keep _ _ e] at hn
        cases hn
  · exact N.grown k p hp
theorem len_base {prog : Program} {w : World} {A : Around} {s : Shared} {E : Value → Shared → Prop} {Q : Value → Shared → Prop} {h₀ : Heap} {L l : Addr} {m : Str → Option Value} {vs : List Value} {n : Nat} (hl : h₀.IsList l vs.toArray) (F : Fr h₀ L s.heap m)
    (hv : vs.length = n) (hb : n < 2 ^ 62) (h : Q (.int (n : Int) (s.toks + 1)) { s with toks := s.toks + 1 + 1 }) : wpAny (model prog w) A (call (.builtin "len") [.ref l]) Q E s := by
  subst hv
  refine Calls.call_len_list (hl.at fun _ e => F.keep _ _ e) ?_ ?_
  · simp only [List.size_toArray]
    omega
  · simpa only [List.size_toArray] using h
def AllNe (d : Addr) (l : List (Addr × Obj)) : Prop := l.foldr (fun p P => @Ne Nat p.1 d ∧ P) True
theorem allNe_of {d : Addr} {h₀ h : Heap} {L : Addr} (hn : h.get? d = none) : ∀ {l : List (Addr × Obj)}, News h₀ L h l → AllNe d l
  | [], _ => trivial
  | p :: r, N => by
    refine ⟨fun e => ?_, allNe_of hn (l := r) fun q hq => N q (List.mem_cons_of_mem _ hq)⟩
    have z := (N p List.mem_cons_self).1
    have e' : p.1 = d := e
    rw [e', hn] at z
    cases z
end
section
abbrev AR (dp un : Nat) (fr : Option (List Env)) (gd : Option (List Code)) : Around := { handled := none, depth := dp, frames := fr, guards := gd, units := un }
def PtAt (h : Heap) (v : Value) (p : Int × Int) : Prop := ∃ a, ∃ t : Tok, ∃ u : Tok, v = .ref a ∧ IsTup h a [.int p.1 t, .int p.2 u].toArray
def side (a b q : Int × Int) : Int := (b.1 - a.1) * (q.2 - a.2) - (b.2 - a.2) * (q.1 - a.1)
def evenB (ns : List Int) : Bool := (ns.filter fun x => decide (x > 0)).length == (ns.filter fun x => decide (x < 0)).length
theorem no_even {n m : Nat} (e : n = m) (h : m % 2 = 1) (x : ((n : Nat) : Int).fmod 2 ≠ 1) : False := by
  rw [Int.fmod_eq_emod_of_nonneg _ (by decide)] at x
  omega
theorem no_odd {n m : Nat} (e : n = m) (h : m % 2 = 0) (x : ((n : Nat) : Int).fmod 2 = 1) : False := by
  rw [Int.fmod_eq_emod_of_nonneg _ (by decide)] at x
  omega
theorem idx2 {n m : Nat} (e : n = m) : (((n : Nat) : Int).fdiv 2).toNat = m / 2 := by
  rw [Int.fdiv_eq_ediv_of_nonneg _ (by decide)]
  omega
theorem idx2p {n m : Nat} (e : n = m) : (((n : Nat) : Int).fdiv 2 - 1).toNat = m / 2 - 1 := by
  rw [Int.fdiv_eq_ediv_of_nonneg _ (by decide)]
  omega
theorem lenC {prog : Program} {w : World} {A : Around} {s : Shared} {E : Value → Shared → Prop} {Q : Value → Shared → Prop} {ys : List Value} {ns : List Int} {D : Addr} (hl : s.heap.IsList D ys.toArray)
    (hc : CarriedAll ys (List.map PyData.int ns)) (hb : ns.length < 2 ^ 62) (h : Q (.int ns.length (s.toks + 1)) { s with toks := s.toks + 1 + 1 }) :
    wpAny (model prog w) A (call (.builtin "len") [.ref D]) Q E s := by
  have e := hc.length_eq
  simp only [List.length_map] at e
  refine Calls.call_len_list hl ?_ ?_
  · simp only [List.size_toArray]
    omega
  · simp only [List.size_toArray, e]
    exact h
def srt (ns : List Int) : List Int := ns.mergeSort (fun a b => decide (a ≤ b))
theorem srt_perm (ns : List Int) : (srt ns).Perm ns := List.mergeSort_perm _ _
theorem srt_le (ns : List Int) : (srt ns).Pairwise (· ≤ ·) := by
  have h := List.pairwise_mergeSort (le := fun a b : Int => decide (a ≤ b)) (fun a b c => by simp only [decide_eq_true_eq]; omega) (fun a b => by simp only [Bool.or_eq_true, decide_eq_true_eq]; omega) ns
  unfold srt
  simpa only [decide_eq_true_eq] using h
theorem srt_eq {ns' ns : List Int} (p : ns'.Perm ns) (o : ns'.Pairwise (· ≤ ·)) : ns' = srt ns :=
  List.Perm.eq_of_pairwise (le := (· ≤ ·)) (fun _ _ _ _ h1 h2 => Int.le_antisymm h1 h2) o (srt_le ns) (p.trans (srt_perm ns).symm)
theorem getD_small {ns' ns : List Int} (p : ns'.Perm ns) (hb : ∀ x ∈ ns, x.natAbs < 2 ^ 40) (i : Nat) : (ns'.getD i 0).natAbs < 2 ^ 40 := by
  rw [List.getD_eq_getElem?_getD]
  cases h : ns'[i]? with
  | none => decide
  | some x => exact hb x (p.subset (List.mem_of_getElem? h))
theorem inf_no {ns' ns : List Int} (p : ns'.Perm ns) (hb : ∀ x ∈ ns, x.natAbs < 2 ^ 40) {i j : Nat}
    (h : Float64.isInf (Float64.ofFrac (decide (ns'.getD i 0 + ns'.getD j 0 < 0) != decide ((2 : Int) < 0)) (ns'.getD i 0 + ns'.getD j 0).natAbs (Int.natAbs 2)) = true) : False := by
  have h1 := getD_small p hb i
  have h2 := getD_small p hb j
  rw [(fl_half (x := ns'.getD i 0 + ns'.getD j 0) (by omega)).1] at h
  cases h
def okB (R B : List (Int × Int)) (a b : Int × Int) : Bool := evenB (R.map (side a b)) && evenB (B.map (side a b))
def bothN (R B : List (Int × Int)) : Nat := (R.map fun a => B.countP (okB R B a)).sum
theorem pts_keep {h h' : Heap} {vs : List Value} {ps : List (Int × Int)} (x : Paired (PtAt h) vs ps) (k : ∀ b o, h.get? b = some o → h'.get? b = some o) : Paired (PtAt h') vs ps := by
  induction x with
  | nil => exact .nil
  | cons a _ ih =>
    obtain ⟨q, t, u, e, ht⟩ := a
    exact .cons ⟨q, t, u, e, ht.keeps k⟩ ih
def MedOk (L : List Int) : Prop := ((srt L).getD (L.length / 2) 0 == 0) = evenB L
theorem med_bad {L : List Int} (h : MedOk L) (x : (((srt L).getD (L.length / 2) 0 == 0) != evenB L) = true) : False := by
  unfold MedOk at h
  rw [h] at x
  simp at x
theorem med_tt {L : List Int} (h : MedOk L) (x : (srt L).getD (L.length / 2) 0 = 0) : evenB L = true := by
  unfold MedOk at h
  rw [← h, x]
  rfl
theorem med_ff {L : List Int} (h : MedOk L) (x : (srt L).getD (L.length / 2) 0 ≠ 0) : evenB L = false := by
  unfold MedOk at h
  rw [← h]
  simpa using x
theorem count_tt {α : Type} {P : α → Bool} {B : List α} {j : Nat} {b : α} {S : Nat} (hb : B[j]? = some b) (h : P b = true) :
    ((S + (B.take (j + 1)).countP P : Nat) : Int) = ((S + (B.take j).countP P : Nat) : Int) + 1 := by
  rw [List.take_add_one, hb]
  simp [List.countP_append, h]
  omega
theorem count_ff {α : Type} {P : α → Bool} {B : List α} {j : Nat} {b : α} {S : Nat} (hb : B[j]? = some b) (h : P b = false) :
    ((S + (B.take (j + 1)).countP P : Nat) : Int) = ((S + (B.take j).countP P : Nat) : Int) := by
  rw [List.take_add_one, hb]
  simp [List.countP_append, h]
/-- low and high are both nought just where the sides are even -/
def LowOk (L : List Int) : Prop := ((srt L).getD (L.length / 2 - 1) 0 = 0 ∧ (srt L).getD (L.length / 2) 0 = 0) ↔ evenB L = true
def bump (ls : List Int) (i j : Nat) (b : Bool) : List Int := if b then (ls.modify i (· + 1)).modify j (· + 1) else ls
def pairB (P : List (Int × Int)) (i j : Nat) : Bool := evenB (P.map (side (P.getD i (0, 0)) (P.getD j (0, 0))))
def rowF (P : List (Int × Int)) (i : Nat) (ls : List Int) (k : Nat) : List Int := (List.range' (i + 1) k).foldl (fun ls j => bump ls i j (pairB P i j)) ls
def colF (P : List (Int × Int)) (n : Nat) (k : Nat) : List Int := (List.range k).foldl (fun ls i => rowF P i ls (n - i - 1)) (List.replicate n 0)
def linesF (P : List (Int × Int)) : List Int := colF P P.length P.length
theorem side_small {a b q : Int × Int} (ha : 0 ≤ a.1 ∧ a.1 < 1009 ∧ 0 ≤ a.2 ∧ a.2 < 1009) (hb : 0 ≤ b.1 ∧ b.1 < 1009 ∧ 0 ≤ b.2 ∧ b.2 < 1009) (hq : 0 ≤ q.1 ∧ q.1 < 1009 ∧ 0 ≤ q.2 ∧ q.2 < 1009) : (side a b q).natAbs < 2 ^ 40 := by
  unfold side
  have h1 : ((b.1 - a.1) * (q.2 - a.2)).natAbs ≤ 1009 * 1009 := by
    rw [Int.natAbs_mul]
    exact Nat.mul_le_mul (by omega) (by omega)
  have h2 : ((b.2 - a.2) * (q.1 - a.1)).natAbs ≤ 1009 * 1009 := by
    rw [Int.natAbs_mul]
    exact Nat.mul_le_mul (by omega) (by omega)
  omega
theorem sides_small {a b : Int × Int} {P : List (Int × Int)} (hbd : ∀ p ∈ P, 0 ≤ p.1 ∧ p.1 < 1009 ∧ 0 ≤ p.2 ∧ p.2 < 1009) (ha : a ∈ P) (hb : b ∈ P) : ∀ x ∈ P.map (side a b), x.natAbs < 2 ^ 40 := by
  intro x hx
  obtain ⟨q, hq, rfl⟩ := List.mem_map.mp hx
  exact side_small (hbd a ha) (hbd b hb) (hbd q hq)
theorem set_modify : ∀ (ls : List Int) (i : Nat), ls.set i (ls.getD i 0 + 1) = ls.modify i (· + 1)
  | [], _ => by simp
  | a :: r, 0 => by simp
  | a :: r, i + 1 => by
    have := set_modify r i
    simpa using this
theorem bump_length (ls : List Int) (i j : Nat) (b : Bool) : (bump ls i j b).length = ls.length := by
  unfold bump
  split <;> simp
theorem foldl_length {α : Type} (f : List Int → α → List Int) (hf : ∀ ls a, (f ls a).length = ls.length) : ∀ (xs : List α) (ls : List Int), (xs.foldl f ls).length = ls.length
  | [], _ => rfl
  | x :: xs, ls => by rw [List.foldl_cons, foldl_length f hf xs, hf]
theorem rowF_length (P : List (Int × Int)) (i : Nat) (ls : List Int) (k : Nat) : (rowF P i ls k).length = ls.length := foldl_length _ (fun _ _ => bump_length ..) _ _
theorem colF_length (P : List (Int × Int)) (n k : Nat) : (colF P n k).length = n := by
  unfold colF
  rw [foldl_length _ (fun _ _ => rowF_length ..)]
  simp
theorem rowF_succ (P : List (Int × Int)) (i : Nat) (ls : List Int) (k : Nat) : rowF P i ls (k + 1) = bump (rowF P i ls k) i (i + 1 + k) (pairB P i (i + 1 + k)) := by
  unfold rowF
  rw [List.range'_1_concat, List.foldl_append]
  rfl
theorem colF_succ (P : List (Int × Int)) (n k : Nat) : colF P n (k + 1) = rowF P k (colF P n k) (n - k - 1) := by
  unfold colF
  rw [List.range_succ, List.foldl_append]
  rfl
theorem pairB_of {P : List (Int × Int)} {i j : Nat} {a b : Int × Int} (ha : P[i]? = some a) (hb : P[j]? = some b) : pairB P i j = evenB (P.map (side a b)) := by
  unfold pairB
  rw [List.getD_eq_getElem?_getD, List.getD_eq_getElem?_getD, ha, hb]
  rfl
theorem low_tt {L : List Int} (g : LowOk L) (h1 : (srt L).getD (L.length / 2 - 1) 0 = 0) (h2 : (srt L).getD (L.length / 2) 0 = 0) : evenB L = true := g.mp ⟨h1, h2⟩
theorem low_f1 {L : List Int} (g : LowOk L) (h1 : (srt L).getD (L.length / 2 - 1) 0 ≠ 0) : evenB L = false := by
  cases e : evenB L with
  | false => rfl
  | true => exact absurd (g.mpr e).1 h1
theorem low_f2 {L : List Int} (g : LowOk L) (h1 : (srt L).getD (L.length / 2) 0 ≠ 0) : evenB L = false := by
  cases e : evenB L with
  | false => rfl
  | true => exact absurd (g.mpr e).2 h1
theorem low_bad1 {L : List Int} (g : LowOk L) (h1 : (srt L).getD (L.length / 2 - 1) 0 ≠ 0) (x : (((srt L).getD (L.length / 2 - 1) 0 == 0) != evenB L) = true) : False := by
  rw [low_f1 g h1, beq_false_of_ne h1] at x
  cases x
theorem low_bad2 {L : List Int} (g : LowOk L) (h1 : (srt L).getD (L.length / 2 - 1) 0 = 0) (x : (((srt L).getD (L.length / 2) 0 == 0) != evenB L) = true) : False := by
  by_cases h2 : (srt L).getD (L.length / 2) 0 = 0
  · rw [low_tt g h1 h2, h2] at x
    cases x
  · rw [low_f2 g h2, beq_false_of_ne h2] at x
    cases x
theorem fl_bad {x : Option Ordering} (h : x = some .eq) (y : (x != some .eq) = true) : False := by
  subst h
  cases y
theorem low_bad3 {L : List Int} (_ : LowOk L) (h1 : (srt L).getD (L.length / 2 - 1) 0 = 0) (h2 : (srt L).getD (L.length / 2 - 1) 0 ≠ 0) : False := h2 h1
theorem bump_tt (ls : List Int) (i j : Nat) : bump ls i j true = (ls.set i (ls.getD i 0 + 1)).set j ((ls.set i (ls.getD i 0 + 1)).getD j 0 + 1) := by
  rw [set_modify, set_modify]
  rfl
end
section
theorem comp_all {prog : Program} {w : World} {A : Around} {h₀ : Heap} {L : Addr} {m : Str → Option Value} {env : Env} {elt : Expr} {x : Str} {scope : Scope} {cl : List (Str × Addr)} {s : Shared} {S : List (Addr × Obj) → Prop} {P : Nat → Value → Prop}
    {Fin : List Value → List (Addr × Obj) → Prop} {news : List (Addr × Obj)} (R : Nat → Value → Prop) (n : Nat) (hS : S news)
    (helt : ∀ i v ys I oI C oC D m₂ h tk (E' : Value → Shared → Prop), i < n → P i v → LCg.NsObj oC m₂ → m₂ x = some v → Fr h₀ L h m → News h₀ L h ((I, oI) :: (C, oC) :: (D, LCg.lst ys) :: news) →
      wpAny (model prog w) A (eval elt (compEnvC scope cl C env)) (fun y s₂ => R i y ∧ ∃ tk', s₂ = { s with heap := h, toks := tk' }) E' { s with heap := h, toks := tk })
    (hfin : ∀ ys : List Value, ys.length = n → (∀ i y, ys[i]? = some y → R i y) → Fin ys news) :
    LCg.CompRest prog w A h₀ L m env elt x scope cl s S P Fin n 0 [] news := by
  suffices H : ∀ k i (ys : List Value), i + k = n → ys.length = i → (∀ j y, ys[j]? = some y → R j y) → LCg.CompRest prog w A h₀ L m env elt x scope cl s S P Fin k i ys news from
    H n 0 [] (Nat.zero_add n) rfl (fun j y e => by simp at e)
  intro k
  induction k with
  | zero => intro i ys hn hl hR; exact LCg.CompRest.zero (hfin ys (by omega) hR)
  | succ k ih =>
    intro i ys hn hl hR
    refine LCg.CompRest.succ fun v I oI C oC D m₂ h tk E' hP hC hx F N off ne => ?_
    refine wpAny_mono (helt i v ys I oI C oC D m₂ h tk E' (by omega) hP hC hx F N) (fun y s₂ h₂ => ?_) fun _ _ e => e
    obtain ⟨hRy, tk', rfl⟩ := h₂
    refine LCg.CompEnd.intro F N news (fun p hp => hp) off hS (ih (i + 1) (ys ++ [y]) (by omega) (by simp [hl]) fun j z hj => ?_)
    rcases Nat.lt_trichotomy j ys.length with q | q | q
    · exact hR j z (by rwa [List.getElem?_append_left q] at hj)
    · subst q
      simp at hj
      subst hj
      exact hl ▸ hRy
    · rw [List.getElem?_eq_none (by simp; omega)] at hj
      cases hj

theorem paired_get {α β : Type} {F : α → β → Prop} : ∀ {l : List α} {k : List β}, Paired F l k → ∀ (i : Nat) (a : α), l[i]? = some a → ∃ b, k[i]? = some b ∧ F a b
  | _, _, .nil, i, a, h => by simp at h
  | _, _, .cons hf ht, 0, a, h => by simp at h; subst h; exact ⟨_, rfl, hf⟩
  | _, _, .cons hf ht, i + 1, a, h => by simp at h; obtain ⟨b, hb, hF⟩ := paired_get ht i a h; exact ⟨b, by simpa using hb, hF⟩

theorem ints_of : ∀ {ys : List Value} {ns : List Int}, ys.length = ns.length → (∀ (i : Nat) y, ys[i]? = some y → ∃ n, ns[i]? = some n ∧ ∃ t, y = .int n t) → IntsAre ys ns
  | [], [], _, _ => .nil
  | [], _ :: _, h, _ => by simp at h
  | _ :: _, [], h, _ => by simp at h
  | y :: ys, n :: ns, h, hR => by
    obtain ⟨n', e, t, rfl⟩ := hR 0 y rfl
    simp at e
    subst e
    exact .cons _ _ (ints_of (by simpa using h) fun i z hz => by simpa using hR (i + 1) z (by simpa using hz))

set_option maxRecDepth 100000 in
set_option maxHeartbeats 8000000 in
theorem sides_call {w : World} {dp un : Nat} {fr : Option (List Env)} {gd : Option (List Code)} {s : Shared} {mg mb : Str → Option Value} {mean : ExcName → Option Value} {E : Value → Shared → Prop} {Q : Value → Shared → Prop}
    (KX : (hd.heap_39 w.params).In s.heap) (T : Top hd.view_39 (looseW hd.view_39 []) mean mg mb s.heap)
    (hd1 : dp + 2 < recursionLimit) (hu : un + 20 < cLine) {pa pb l : Addr} {vs : List Value} {ps : List (Int × Int)} {ax ay bx by' : Int} {t1 t2 t3 t4 : Tok}
    (ha : IsTup s.heap pa [.int ax t1, .int ay t2].toArray) (hb : IsTup s.heap pb [.int bx t3, .int by' t4].toArray)
    (hl : s.heap.IsList l vs.toArray) (hp : Paired (PtAt s.heap) vs ps) (h14 : ps.length ≤ 14)
    (hbd : ∀ p ∈ ps, 0 ≤ p.1 ∧ p.1 < 1009 ∧ 0 ≤ p.2 ∧ p.2 < 1009) (h1 : 0 ≤ ax) (h2 : ax < 1009) (h3 : 0 ≤ ay) (h4 : ay < 1009) (h5 : 0 ≤ bx) (h6 : bx < 1009) (h7 : 0 ≤ by') (h8 : by' < 1009)
    (hret : ∀ D h' tk' vs' c, (∀ b o, s.heap.get? b = some o → h'.get? b = some o) → s.heap.get? D = none → h'.get? D = some (W.listOf vs' c) → IntsAre vs'.toList (ps.map (side (ax, ay) (bx, by'))) → Q (.ref D) { s with heap := h', toks := tk' }) :
    wpAny (model PySem.Challenge.rw_dh5009_01.row.prog w) (AR dp un fr gd) (call (.ref 59) [.ref pa, .ref pb, .ref l]) Q E s := by
  revert KX; k_fill; intro KX
  have hlen := hp.length
  refine wpAny_call ?_
  with_unfolding_all refine' call_cells_ret (binds := [(Str.ofString "a", .ref pa), (Str.ofString "b", .ref pb), (Str.ofString "points", .ref l)]) ?a1 ?a2 ?a3 ?a4 ?a5 ?a6 ?a7 ?a8 ?b1 ?b2 ?b3
  case a2 => exact Frag.In.keeps (by assumption) (fun _ _ h => h) _ _ (by k_is)
  case a3 => exact rfl
  case a4 => exact Top.nolimit (by assumption)
  case a5 => exact codeRec_of (by assumption) (by k_is)
  case a6 => exact rfl
  case a7 => exact kindsX rfl _
  case a1 => show dp < recursionLimit; omega
  case b1 => rfl
  case b2 => rfl
  case b3 => rfl
  case a8 =>
    intro h₁ tk F C
    obtain ⟨oa, hoa, hda⟩ := C.cell (Str.ofString "a") (s.heap.objs.size + 1) (by rfl)
    obtain ⟨ob, hob, hdb⟩ := C.cell (Str.ofString "b") (s.heap.objs.size + 1 + 1) (by rfl)
    have hda' : oa.data = .cell (some (.ref pa)) := hda
    have hdb' : ob.data = .cell (some (.ref pb)) := hdb
    have N : News s.heap s.heap.objs.size h₁ [(s.heap.objs.size + 1, oa), (s.heap.objs.size + 1 + 1, ob)] := fun p hp => by
      rcases List.mem_cons.mp hp with rfl | hp
      · exact ⟨hoa, Nat.succ_ne_self _, Heap.get?_none_of_le (Nat.le_succ _)⟩
      · rcases List.mem_cons.mp hp with rfl | hp
        · exact ⟨hob, by show s.heap.objs.size + 1 + 1 ≠ s.heap.objs.size; omega, Heap.get?_none_of_le (by show s.heap.objs.size ≤ s.heap.objs.size + 1 + 1; omega)⟩
        · cases hp
    clear hoa hob hda hdb C
    walk1
    walk1
    walk1
    walk1
    refine LCg.CompSrc.base (by rfl) F N hl (by show vs.toArray.size ≤ sizeLine; simp only [List.size_toArray]; rw [hlen, sizeLine_eq]; omega) ?_
    intro g
    refine comp_all (fun i y => ∃ p, ps[i]? = some p ∧ ∃ t, y = .int (side (ax, ay) (bx, by') p) t) _ (.inl hl) ?_ ?_
    · intro i v ys I oI C oC D m₂ h tk E' hi hP hC hx F N
      obtain ⟨p, hpi, a, t, u, rfl, hat⟩ := paired_get hp i v (by simpa using hP)
      obtain ⟨q1, q2, q3, q4⟩ := hbd p (List.mem_of_getElem? hpi)
      obtain ⟨px, py⟩ := p
      dsimp only at q1 q2 q3 q4 hat
      k_steps
    · intro ys hys hR
      unfold LCg.FinE
      intro D h tk F N _
      refine hret D h tk ys.toArray ys.length F.keep (N _ List.mem_cons_self).2.2 (N _ List.mem_cons_self).1 (ints_of ?_ fun i y hy => ?_)
      · simp at hys ⊢; omega
      · obtain ⟨p, hpi, t, rfl⟩ := hR i y hy
        exact ⟨_, by simp [hpi], t, rfl⟩
end
section
local macro_rules | `(tactic| walk_at "call builtin:len") => `(tactic| (refine lenC (by assumption) (by assumption) (Nat.lt_of_le_of_lt (List.length_filter_le _ _) (by omega)) ?_))
set_option maxRecDepth 100000 in
set_option maxHeartbeats 8000000 in
theorem even_call {w : World} {dp un : Nat} {fr : Option (List Env)} {gd : Option (List Code)} {s : Shared} {mg mb : Str → Option Value} {mean : ExcName → Option Value} {E : Value → Shared → Prop} {Q : Value → Shared → Prop}
    (KX : (hd.heap_39 w.params).In s.heap) (T : Top hd.view_39 (looseW hd.view_39 []) mean mg mb s.heap)
    (hd1 : dp + 2 < recursionLimit) (hu : un + 20 < cLine) {l : Addr} {vs : List Value} {ns : List Int}
    (hl : s.heap.IsList l vs.toArray) (hi : IntsAre vs ns) (h14 : ns.length ≤ 14)
    (hret : ∀ h' tk', (∀ b o, s.heap.get? b = some o → h'.get? b = some o) → Q (.bool (evenB ns)) { s with heap := h', toks := tk' }) :
    wpAny (model PySem.Challenge.rw_dh5009_01.row.prog w) (AR dp un fr gd) (call (.ref 64) [.ref l]) Q E s := by
  have hret' : ∀ h' tk', (∀ b o, s.heap.get? b = some o → h'.get? b = some o) → Q (.bool (((ns.filter fun x => decide (0 < x)).length : Int) == ((ns.filter fun x => decide (x < 0)).length : Int))) { s with heap := h', toks := tk' } := by
    intro h' tk' k
    have e : ∀ n m : Nat, (((n : Nat) : Int) == ((m : Nat) : Int)) = (n == m) := fun n m => by
      rw [Bool.eq_iff_iff]
      simp [Int.ofNat_inj]
    rw [e]
    exact hret h' tk' k
  w_top off
  revert KX; k_fill; intro KX
  refine wpAny_call ?_
  with_unfolding_all refine' call_plain_ret (binds := [(Str.ofString "sides", .ref l)]) ?a1 ?a2 ?a3 ?a4 ?a5 ?a6 ?a7 ?a8 ?b1 ?b2 ?b3 ?b4
  case a2 => exact Frag.In.keeps (by assumption) (fun _ _ h => h) _ _ (by k_is)
  case a3 => exact rfl
  case a4 => exact Top.nolimit (by assumption)
  case a5 => exact codeRec_of (by assumption) (by k_is)
  case a6 => exact rfl
  case a7 => exact locs rfl
  case a1 => show dp < recursionLimit; omega
  case b1 => rfl
  case b2 => rfl
  case b3 => rfl
  case b4 => decide
  case a8 =>
    intro h₁ F
    have N := News.nil (h₀ := s.heap) (L := s.heap.objs.size) (h := h₁)
    k_steps
    all_goals exact hret' _ _ (Fr.keep (by assumption))
end
section
set_option maxRecDepth 100000 in
set_option maxHeartbeats 8000000 in
theorem med_odd {w : World} {dp un : Nat} {fr : Option (List Env)} {gd : Option (List Code)} {s : Shared} {mg mb : Str → Option Value} {mean : ExcName → Option Value} {E : Value → Shared → Prop} {Q : Value → Shared → Prop}
    (KX : (hd.heap_39 w.params).In s.heap) (T : Top hd.view_39 (looseW hd.view_39 []) mean mg mb s.heap)
    (hd1 : dp + 2 < recursionLimit) (hu : un + 20 < cLine) {l : Addr} {vs : List Value} {ns : List Int}
    (hl : s.heap.IsList l vs.toArray) (hi : IntsAre vs ns) (h14 : ns.length ≤ 14) (hodd : ns.length % 2 = 1)
    (hret : ∀ h' tk' t, (∀ b o, s.heap.get? b = some o → h'.get? b = some o) → Q (.int ((srt ns).getD (ns.length / 2) 0) t) { s with heap := h', toks := tk' }) :
    wpAny (model PySem.Challenge.rw_dh5009_01.row.prog w) (AR dp un fr gd) (call (.ref 34) [.ref l]) Q E s := by
  have hret' : ∀ h' tk' t (ns' : List Int), (∀ b o, s.heap.get? b = some o → h'.get? b = some o) → ns'.Perm ns → ns'.Pairwise (· ≤ ·) → Q (.int (ns'.getD (ns.length / 2) 0) t) { s with heap := h', toks := tk' } := by
    intro h' tk' t ns' k p o
    rw [srt_eq p o]
    exact hret h' tk' t k
  w_top off
  revert KX; k_fill; intro KX
  refine wpAny_call ?_
  with_unfolding_all refine' call_plain_ret (binds := [(Str.ofString "data", .ref l)]) ?a1 ?a2 ?a3 ?a4 ?a5 ?a6 ?a7 ?a8 ?b1 ?b2 ?b3 ?b4
  case a2 => exact Frag.In.keeps (by assumption) (fun _ _ h => h) _ _ (by k_is)
  case a3 => exact rfl
  case a4 => exact Top.nolimit (by assumption)
  case a5 => exact codeRec_of (by assumption) (by k_is)
  case a6 => exact rfl
  case a7 => exact locs rfl
  case a1 => show dp < recursionLimit; omega
  case b1 => rfl
  case b2 => rfl
  case b3 => rfl
  case b4 => decide
  case a8 =>
    intro h₁ F
    have N := News.nil (h₀ := s.heap) (L := s.heap.objs.size) (h := h₁)
    k_steps
    all_goals first
      | exact (no_even (by assumption) hodd (by assumption)).elim
      | (dsimp only
         rw [idx2 (m := ns.length) (by assumption)]
         exact hret' _ _ _ _ (Fr.keep (by assumption)) (by assumption) (by assumption))
set_option maxRecDepth 100000 in
set_option maxHeartbeats 8000000 in
theorem med_even {w : World} {dp un : Nat} {fr : Option (List Env)} {gd : Option (List Code)} {s : Shared} {mg mb : Str → Option Value} {mean : ExcName → Option Value} {E : Value → Shared → Prop} {Q : Value → Shared → Prop}
    (KX : (hd.heap_39 w.params).In s.heap) (T : Top hd.view_39 (looseW hd.view_39 []) mean mg mb s.heap)
    (hd1 : dp + 2 < recursionLimit) (hu : un + 20 < cLine) {l : Addr} {vs : List Value} {ns : List Int}
    (hl : s.heap.IsList l vs.toArray) (hi : IntsAre vs ns) (h14 : ns.length ≤ 14) (hev : ns.length % 2 = 0) (h0 : 0 < ns.length) (hb : ∀ x ∈ ns, x.natAbs < 2 ^ 40)
    (hret : ∀ h' tk' t, (∀ b o, s.heap.get? b = some o → h'.get? b = some o) →
      ∀ bits, Float64.cmpInt (Float64.mul (Float64.ofInt 2) bits) ((srt ns).getD (ns.length / 2 - 1) 0 + (srt ns).getD (ns.length / 2) 0) = some .eq → Q (.float bits t) { s with heap := h', toks := tk' }) :
    wpAny (model PySem.Challenge.rw_dh5009_01.row.prog w) (AR dp un fr gd) (call (.ref 34) [.ref l]) Q E s := by
  have hret' : ∀ h' tk' t (ns' : List Int), (∀ b o, s.heap.get? b = some o → h'.get? b = some o) → ns'.Perm ns → ns'.Pairwise (· ≤ ·) →
      Q (.float (Float64.ofFrac (decide (ns'.getD (ns.length / 2 - 1) 0 + ns'.getD (ns.length / 2) 0 < 0) != decide ((2 : Int) < 0)) (ns'.getD (ns.length / 2 - 1) 0 + ns'.getD (ns.length / 2) 0).natAbs (Int.natAbs 2)) t) { s with heap := h', toks := tk' } := by
    intro h' tk' t ns' k p o
    have h1 := getD_small p hb (ns.length / 2 - 1)
    have h2 := getD_small p hb (ns.length / 2)
    refine hret h' tk' t k _ ?_
    rw [← srt_eq p o]
    exact (fl_half (by omega)).2
  w_top off
  revert KX; k_fill; intro KX
  refine wpAny_call ?_
  with_unfolding_all refine' call_plain_ret (binds := [(Str.ofString "data", .ref l)]) ?a1 ?a2 ?a3 ?a4 ?a5 ?a6 ?a7 ?a8 ?b1 ?b2 ?b3 ?b4
  case a2 => exact Frag.In.keeps (by assumption) (fun _ _ h => h) _ _ (by k_is)
  case a3 => exact rfl
  case a4 => exact Top.nolimit (by assumption)
  case a5 => exact codeRec_of (by assumption) (by k_is)
  case a6 => exact rfl
  case a7 => exact locs rfl
  case a1 => show dp < recursionLimit; omega
  case b1 => rfl
  case b2 => rfl
  case b3 => rfl
  case b4 => decide
  case a8 =>
    intro h₁ F
    have N := News.nil (h₀ := s.heap) (L := s.heap.objs.size) (h := h₁)
    k_steps
    all_goals first
      | exact (no_odd (by assumption) hev (by assumption)).elim
      | exact (inf_no (by assumption) hb (by assumption)).elim
      | (rw [idx2 (m := ns.length) (by assumption), idx2p (m := ns.length) (by assumption)]
         exact hret' _ _ _ _ (Fr.keep (by assumption)) (by assumption) (by assumption))
      | trace_state
set_option maxRecDepth 100000 in
set_option maxHeartbeats 8000000 in
theorem med_low {w : World} {dp un : Nat} {fr : Option (List Env)} {gd : Option (List Code)} {s : Shared} {mg mb : Str → Option Value} {mean : ExcName → Option Value} {E : Value → Shared → Prop} {Q : Value → Shared → Prop}
    (KX : (hd.heap_39 w.params).In s.heap) (T : Top hd.view_39 (looseW hd.view_39 []) mean mg mb s.heap)
    (hd1 : dp + 2 < recursionLimit) (hu : un + 20 < cLine) {l : Addr} {vs : List Value} {ns : List Int}
    (hl : s.heap.IsList l vs.toArray) (hi : IntsAre vs ns) (h14 : ns.length ≤ 14) (hev : ns.length % 2 = 0) (h0 : 0 < ns.length)
    (hret : ∀ h' tk' t, (∀ b o, s.heap.get? b = some o → h'.get? b = some o) → Q (.int ((srt ns).getD (ns.length / 2 - 1) 0) t) { s with heap := h', toks := tk' }) :
    wpAny (model PySem.Challenge.rw_dh5009_01.row.prog w) (AR dp un fr gd) (call (.ref 41) [.ref l]) Q E s := by
  have hret' : ∀ h' tk' t (ns' : List Int), (∀ b o, s.heap.get? b = some o → h'.get? b = some o) → ns'.Perm ns → ns'.Pairwise (· ≤ ·) → Q (.int (ns'.getD (ns.length / 2 - 1) 0) t) { s with heap := h', toks := tk' } := by
    intro h' tk' t ns' k p o
    rw [srt_eq p o]
    exact hret h' tk' t k
  w_top off
  revert KX; k_fill; intro KX
  refine wpAny_call ?_
  with_unfolding_all refine' call_plain_ret (binds := [(Str.ofString "data", .ref l)]) ?a1 ?a2 ?a3 ?a4 ?a5 ?a6 ?a7 ?a8 ?b1 ?b2 ?b3 ?b4
  case a2 => exact Frag.In.keeps (by assumption) (fun _ _ h => h) _ _ (by k_is)
  case a3 => exact rfl
  case a4 => exact Top.nolimit (by assumption)
  case a5 => exact codeRec_of (by assumption) (by k_is)
  case a6 => exact rfl
  case a7 => exact locs rfl
  case a1 => show dp < recursionLimit; omega
  case b1 => rfl
  case b2 => rfl
  case b3 => rfl
  case b4 => decide
  case a8 =>
    intro h₁ F
    have N := News.nil (h₀ := s.heap) (L := s.heap.objs.size) (h := h₁)
    k_steps
    all_goals first
      | exact (no_odd (by assumption) hev (by assumption)).elim
      | (dsimp only
         rw [idx2p (m := ns.length) (by assumption)]
         exact hret' _ _ _ _ (Fr.keep (by assumption)) (by assumption) (by assumption))
      | trace_state
set_option maxRecDepth 100000 in
set_option maxHeartbeats 8000000 in
theorem med_high {w : World} {dp un : Nat} {fr : Option (List Env)} {gd : Option (List Code)} {s : Shared} {mg mb : Str → Option Value} {mean : ExcName → Option Value} {E : Value → Shared → Prop} {Q : Value → Shared → Prop}
    (KX : (hd.heap_39 w.params).In s.heap) (T : Top hd.view_39 (looseW hd.view_39 []) mean mg mb s.heap)
    (hd1 : dp + 2 < recursionLimit) (hu : un + 20 < cLine) {l : Addr} {vs : List Value} {ns : List Int}
    (hl : s.heap.IsList l vs.toArray) (hi : IntsAre vs ns) (h14 : ns.length ≤ 14) (h0 : 0 < ns.length)
    (hret : ∀ h' tk' t, (∀ b o, s.heap.get? b = some o → h'.get? b = some o) → Q (.int ((srt ns).getD (ns.length / 2) 0) t) { s with heap := h', toks := tk' }) :
    wpAny (model PySem.Challenge.rw_dh5009_01.row.prog w) (AR dp un fr gd) (call (.ref 48) [.ref l]) Q E s := by
  have hret' : ∀ h' tk' t (ns' : List Int), (∀ b o, s.heap.get? b = some o → h'.get? b = some o) → ns'.Perm ns → ns'.Pairwise (· ≤ ·) → Q (.int (ns'.getD (ns.length / 2) 0) t) { s with heap := h', toks := tk' } := by
    intro h' tk' t ns' k p o
    rw [srt_eq p o]
    exact hret h' tk' t k
  w_top off
  revert KX; k_fill; intro KX
  refine wpAny_call ?_
  with_unfolding_all refine' call_plain_ret (binds := [(Str.ofString "data", .ref l)]) ?a1 ?a2 ?a3 ?a4 ?a5 ?a6 ?a7 ?a8 ?b1 ?b2 ?b3 ?b4
  case a2 => exact Frag.In.keeps (by assumption) (fun _ _ h => h) _ _ (by k_is)
  case a3 => exact rfl
  case a4 => exact Top.nolimit (by assumption)
  case a5 => exact codeRec_of (by assumption) (by k_is)
  case a6 => exact rfl
  case a7 => exact locs rfl
  case a1 => show dp < recursionLimit; omega
  case b1 => rfl
  case b2 => rfl
  case b3 => rfl
  case b4 => decide
  case a8 =>
    intro h₁ F
    have N := News.nil (h₀ := s.heap) (L := s.heap.objs.size) (h := h₁)
    k_steps
    all_goals first
      | (dsimp only
         rw [idx2 (m := ns.length) (by assumption)]
         exact hret' _ _ _ _ (Fr.keep (by assumption)) (by assumption) (by assumption))
      | trace_state
end
section
local macro_rules | `(tactic| walk_at "MSTEPS") => `(tactic| repeat' ((fail_if_success (with_reducible show wpAny _ _ (pyIter _) _ _ _)); (fail_if_success (with_reducible show wpAny _ _ (exec (PySem.Stmt.While _ _ _ _) _) _ _ _)); (fail_if_success (with_reducible show wpAny _ _ (eval (PySem.Expr.ListComp _ _ _ _) _) _ _ _)); (fail_if_success (with_reducible show wpAny _ _ (newTuple _) _ _ _)); first | (k_unfold; (try dsimp only)) | (k_end; kc_close) | walk1 | (dsimp only; walk1) | (leave1; walk_say "STEP leave1"; (try dsimp only)) | fail "no step"))
theorem comp_gen {prog : Program} {w : World} {A : Around} {h₀ : Heap} {L : Addr} {m : Str → Option Value} {env : Env} {elt : Expr} {x : Str} {scope : Scope} {cl : List (Str × Addr)} {s : Shared} {S : List (Addr × Obj) → Prop} {P : Nat → Value → Prop}
    {Fin : List Value → List (Addr × Obj) → Prop} {news : List (Addr × Obj)} (G : Nat → List Value → List (Addr × Obj) → Prop) (n : Nat) (hG : G 0 [] news)
    (helt : ∀ i v ys nw I oI C oC D m₂ h tk (E' : Value → Shared → Prop), i < n → P i v → G i ys nw → LCg.NsObj oC m₂ → m₂ x = some v → Fr h₀ L h m → News h₀ L h ((I, oI) :: (C, oC) :: (D, LCg.lst ys) :: nw) → LCg.Off3 I C D nw →
      wpAny (model prog w) A (eval elt (compEnvC scope cl C env)) (LCg.CompEnd h₀ L m { s with heap := h, toks := tk } I oI C oC D (LCg.lst ys) S (fun y nw' => G (i + 1) (ys ++ [y]) nw')) E' { s with heap := h, toks := tk })
    (hfin : ∀ ys nw, G n ys nw → Fin ys nw) :
    LCg.CompRest prog w A h₀ L m env elt x scope cl s S P Fin n 0 [] news := by
  suffices H : ∀ k i (ys : List Value) nw, i + k = n → G i ys nw → LCg.CompRest prog w A h₀ L m env elt x scope cl s S P Fin k i ys nw from H n 0 [] news (Nat.zero_add n) hG
  intro k
  induction k with
  | zero =>
    intro i ys nw hn hg
    obtain rfl : i = n := by omega
    exact LCg.CompRest.zero (hfin ys nw hg)
  | succ k ih =>
    intro i ys nw hn hg
    refine LCg.CompRest.succ fun v I oI C oC D m₂ h tk E' hP hC hx F N off ne => ?_
    refine wpAny_mono (helt i v ys nw I oI C oC D m₂ h tk E' (by omega) hP hg hC hx F N off) (fun y s₂ h₂ => ?_) fun _ _ e => e
    obtain ⟨h', tk', nw', e, F', N', off', hS', hg'⟩ := h₂
    exact ⟨h', tk', nw', e, F', N', off', hS', ih (i + 1) (ys ++ [y]) nw' (by omega) hg'⟩
def TakenIs (xs : List Int) (m : Str → Option Value) (nx : List (Addr × Obj)) : Prop :=
  ∃ a vals c, nx = [(a, W.listOf vals c)] ∧ IntsAre vals.toList xs ∧ m (Str.ofString "taken") = some (.ref a)
theorem paired_mono {α β : Type} {F G : α → β → Prop} (h : ∀ a b, F a b → G a b) : ∀ {l : List α} {k : List β}, Paired F l k → Paired G l k
  | _, _, .nil => .nil
  | _, _, .cons a b => .cons (h _ _ a) (paired_mono h b)
theorem paired_map {α β γ : Type} {F : α → γ → Prop} {f : β → γ} : ∀ {l : List α} {k : List β}, Paired (fun a b => F a (f b)) l k → Paired F l (k.map f)
  | _, _, .nil => .nil
  | _, _, .cons a b => .cons a (paired_map b)
def TupIn (tups : List (Addr × Obj)) (v : Value) (p : Int × Int) : Prop :=
  ∃ (q : Addr) (t u : Tok) (e : Nat), v = .ref q ∧ (q, ({ cls := .type "tuple", data := .seq [.int p.1 t, .int p.2 u].toArray e } : Obj)) ∈ tups
set_option maxRecDepth 100000 in
set_option maxHeartbeats 8000000 in
theorem points_call {w : World} {dp un : Nat} {fr : Option (List Env)} {gd : Option (List Code)} {s : Shared} {mg mb : Str → Option Value} {mean : ExcName → Option Value} {E : Value → Shared → Prop} {Q : Value → Shared → Prop}
    (KX : (hd.heap_39 w.params).In s.heap) (T : Top hd.view_39 (looseW hd.view_39 []) mean mg mb s.heap)
    (hd1 : dp + 2 < recursionLimit) (hu : un + 20 < cLine) {l : Addr} {vs : List Value} {ns : List Int} {k : Nat} {tk0 : Tok}
    (hl : s.heap.IsList l vs.toArray) (hi : IntsAre vs ns) (hk : k ≤ ns.length) (h14 : k ≤ 14) (hlen : ns.length < 2 ^ 30)
    (hret : ∀ D h' tk' vs' c (xs : List Int) (tups : List (Addr × Obj)), (∀ b o, s.heap.get? b = some o → h'.get? b = some o) → s.heap.get? D = none → h'.get? D = some (W.listOf vs' c) → (∀ p ∈ tups, s.heap.get? p.1 = none ∧ h'.get? p.1 = some p.2) →
      xs.length = k → xs.Nodup → (∀ x ∈ xs, 0 ≤ x ∧ x < 1009) → Paired (TupIn tups) vs'.toList (xs.map fun x => (x, x * x % 1009)) → Q (.ref D) { s with heap := h', toks := tk' }) :
    wpAny (model PySem.Challenge.rw_dh5009_01.row.prog w) (AR dp un fr gd) (call (.ref 54) [.ref l, .int k tk0]) Q E s := by
  w_top off
  revert KX; k_fill; intro KX
  refine wpAny_call ?_
  with_unfolding_all refine' call_plain_ret (binds := [(Str.ofString "row", .ref l), (Str.ofString "k", .int k tk0)]) ?a1 ?a2 ?a3 ?a4 ?a5 ?a6 ?a7 ?a8 ?b1 ?b2 ?b3 ?b4
  case a2 => exact Frag.In.keeps (by assumption) (fun _ _ h => h) _ _ (by k_is)
  case a3 => exact rfl
  case a4 => exact Top.nolimit (by assumption)
  case a5 => exact codeRec_of (by assumption) (by k_is)
  case a6 => exact rfl
  case a7 => exact locs rfl
  case a1 => show dp < recursionLimit; omega
  case b1 => rfl
  case b2 => rfl
  case b3 => rfl
  case b4 => decide
  case a8 =>
    intro h₁ F
    have N := News.nil (h₀ := s.heap) (L := s.heap.objs.size) (h := h₁)
    walk_at "MSTEPS"
    rename IsRange _ _ _ _ _ _ _ _ => R1
    rename Fr _ _ _ _ => F1
    rename News _ _ _ _ => N1
    refine loop_range (n := k) (J := fun i m nx => ∃ xs : List Int, xs.length = i ∧ xs.Nodup ∧ (∀ x ∈ xs, 0 ≤ x ∧ x < 1009) ∧ TakenIs xs m nx ∧ m (Str.ofString "row") = some (.ref l)) (by rfl) R1 (by omega) (by omega) (by omega) (by omega) (by omega) F1 N1 ?_ ?_ ?_
    · exact ⟨[], rfl, .nil, fun _ h => (nomatch h), ⟨_, #[], 0, rfl, .nil, by rfl⟩, by rfl⟩
    · rintro i t m₁ nx h tk I oI hin ⟨xs, hxl, hnd, hxb, ⟨a, vals, c, rfl, hI, hm1⟩, hm2⟩ hadr hlt F2 N2
      clear R1 F1 N1
      rw [frq hm1] at F2
      rw [frq hm2] at F2
      dsimp only at F2
      have hlt' : @LT.lt Nat _ a I := hlt _ List.mem_cons_self
      clear hlt
      dsimp only [List.cons_append, List.nil_append] at N2
      walk_at "MSTEPS"
      rename Fr _ _ _ _ => F3
      rename News _ _ _ _ => N3
      obtain ⟨n0, hn0⟩ := free_place (xs := xs) (by omega) ((ns.getD (0 + (i : Int)).toNat 0).fmod 1009)
      refine While_inv (n₀ := n0) (fun n m nx => (∃ z tz, m (Str.ofString "x") = some (.int z tz) ∧ 0 ≤ z ∧ z < 1009 ∧ (z + (n : Int)) % 1009 ∉ xs) ∧ m (Str.ofString "taken") = some (.ref a) ∧ m (Str.ofString "row") = some (.ref l) ∧ nx = [(a, W.listOf vals c), (I, oI)]) F3 N3 ?_ ?_
      · exact ⟨⟨_, _, by rfl, Int.fmod_nonneg_of_pos _ (by decide), Int.fmod_lt_of_pos _ (by decide), hn0⟩, by rfl, by rfl, rfl⟩
      · clear F3 N3 F2 N2
        rintro n m₃ nx h3 tk3 F3 N3 ⟨⟨z, tz, hx1, hz0, hz1, hfree⟩, hx2, hx3, rfl⟩
        rw [frq hx1] at F3
        rw [frq hx2] at F3
        rw [frq hx3] at F3
        dsimp only at F3
        walk_at "MSTEPS"
        · rename List.any _ _ = true => hany
          have hz : z ∈ xs := by simpa using hany
          have hn : n ≠ 0 := by
            rintro rfl
            apply hfree
            have : (z + ((0 : Nat) : Int)) % 1009 = z := by omega
            rw [this]
            exact hz
          refine WhileStep.intro (n' := n - 1) (by assumption) (by assumption) (by omega) ⟨⟨_, _, by rfl, Int.fmod_nonneg_of_pos _ (by decide), Int.fmod_lt_of_pos _ (by decide), ?_⟩, by rfl, by rfl, rfl⟩
          have e : ((z + 1).fmod 1009 + ((n - 1 : Nat) : Int)) % 1009 = (z + (n : Int)) % 1009 := by
            rw [Int.fmod_eq_emod_of_nonneg _ (by decide)]
            omega
          rw [e]
          exact hfree
        · rename List.any _ _ = false => hany
          have hz : z ∉ xs := fun hm => by
            rw [List.any_eq_false] at hany
            exact hany z hm (by simp)
          refine TEnd.mk [(a, W.listOf (vals.push (.int z tz)) (c + 1))] (by assumption) (by assumption) ?_ hadr ⟨xs ++ [z], by simp [hxl], ?_, ?_, ⟨_, _, _, rfl, ?_, by rfl⟩, by rfl⟩
          · exact List.forall_mem_cons.mpr ⟨List.mem_cons_of_mem _ List.mem_cons_self, List.forall_mem_cons.mpr ⟨List.mem_cons_self, List.forall_mem_nil _⟩⟩
          · rw [List.nodup_append]
            refine ⟨hnd, by simp, ?_⟩
            intro a ha b hb
            rw [List.mem_singleton.mp hb]
            rintro rfl
            exact hz ha
          · intro y hy
            rcases List.mem_append.mp hy with hy | hy
            · exact hxb y hy
            · rw [List.mem_singleton.mp hy]
              exact ⟨hz0, hz1⟩
          · rw [Array.toList_push]
            exact IntsAre.append hI (.cons _ _ .nil)
    · rintro m₁ nx h tk ⟨xs, hxl, hnd, hxb, ⟨a, vals, c, rfl, hI, hm1⟩, hm2⟩ hadr F2 N2
      clear R1 F1 N1
      rw [frq hm1] at F2
      rw [frq hm2] at F2
      dsimp only at F2
      walk_at "MSTEPS"
      rename Fr _ _ _ _ => F3
      rename News _ _ _ _ => N3
      have hvl := IntsAre.length hI
      simp only [Array.length_toList] at hvl
      with_unfolding_all refine LCg.ListComp_U (F₀ := F3) (by rfl) (by decide) (by rfl) (by decide) (by rfl) ?_
      walk1
      refine LCg.CompSrc.ledger (by rfl) F3 N3 List.mem_cons_self (by rw [hvl, sizeLine_eq]; omega) ?_
      intro g
      refine comp_gen (fun i ys nw => ∃ tups, nw = tups ++ [(a, W.listOf vals c)] ∧ Paired (fun y (x : Int) => ∃ q t u e, y = .ref q ∧ (q, ({ cls := .type "tuple", data := .seq [.int x t, .int (x * x % 1009) u].toArray e } : Obj)) ∈ tups) ys (xs.take i)) _ ⟨[], rfl, .nil⟩ ?_ ?_
      · rintro i v ys nw I oI C oC D m₂ h tk E' hi hP ⟨tups, rfl, hp⟩ hC hx F N off
        obtain ⟨z, tz, rfl, hxi⟩ := IntsAre.at hI i v (by simpa using hP)
        obtain ⟨hz0, hz1⟩ := hxb z (List.mem_of_getElem? hxi)
        clear F3 N3
        walk_at "MSTEPS"
        rw [Int.fmod_eq_emod_of_nonneg _ (by decide)]
        refine newTuple_N F N (fun h' F' N' => ?_)
        have below : ∀ p ∈ (I, oI) :: (C, oC) :: (D, LCg.lst ys) :: (tups ++ [(a, W.listOf vals c)]), p.1 < h.objs.size := fun p hp => Heap.lt_size (N p hp).1
        refine LCg.CompEnd.intro F' N' ((h.objs.size, { cls := .type "tuple", data := .seq [.int z tz, .int (z * z % 1009) (tk + 1 + 1)].toArray }) :: (tups ++ [(a, W.listOf vals c)])) ?_ ?_ ?_ ?_
        · intro p hp
          simp only [List.mem_cons] at hp ⊢
          rcases hp with q | q | q | q | q <;> simp [q]
        · have b1 := below (I, oI) List.mem_cons_self
          have b2 := below (C, oC) (List.mem_cons_of_mem _ List.mem_cons_self)
          have b3 := below (D, LCg.lst ys) (List.mem_cons_of_mem _ (List.mem_cons_of_mem _ List.mem_cons_self))
          exact ⟨⟨Nat.ne_of_gt b1, Nat.ne_of_gt b2, Nat.ne_of_gt b3⟩, off⟩
        · exact .inr ⟨_, List.mem_cons_of_mem _ (List.mem_append_right _ List.mem_cons_self), rfl, _, rfl⟩
        · refine ⟨_ :: tups, rfl, ?_⟩
          have e : xs.take (i + 1) = xs.take i ++ [z] := by rw [List.take_add_one, hxi]; rfl
          rw [e]
          refine Paired.snoc (paired_mono (fun y x hy => ?_) hp) ⟨_, _, _, _, rfl, List.mem_cons_self⟩
          obtain ⟨q, t, u, e, h1, h2⟩ := hy
          exact ⟨q, t, u, e, h1, List.mem_cons_of_mem _ h2⟩
      · rintro ys nw ⟨tups, rfl, hp⟩
        unfold LCg.FinE
        intro D h tk F N _
        rw [List.take_of_length_le (by omega)] at hp
        refine hret D h tk ys.toArray ys.length xs tups F.keep (N _ List.mem_cons_self).2.2 (N _ List.mem_cons_self).1 (fun p hp => ⟨(N p (List.mem_cons_of_mem _ (List.mem_append_left _ hp))).2.2, (N p (List.mem_cons_of_mem _ (List.mem_append_left _ hp))).1⟩) hxl hnd hxb (paired_map (paired_mono (fun y x hy => ?_) hp))
        obtain ⟨q, t, u, e, rfl, h2⟩ := hy
        exact ⟨q, t, u, e, rfl, h2⟩
end
section
theorem med_odd_a {w : World} {dp un : Nat} {fr : Option (List Env)} {gd : Option (List Code)} {s : Shared} {mg mb : Str → Option Value} {mean : ExcName → Option Value} {E : Value → Shared → Prop} {Q : Value → Shared → Prop}
    (KX : (hd.heap_39 w.params).In s.heap) (T : Top hd.view_39 (looseW hd.view_39 []) mean mg mb s.heap)
    (hd1 : dp + 2 < recursionLimit) (hu : un + 20 < cLine) {l : Addr} {vs : Array Value} {c : Nat} {ns : List Int}
    (hl : s.heap.get? l = some (W.listOf vs c)) (hi : IntsAre vs.toList ns) (h14 : ns.length ≤ 14) (hodd : ns.length % 2 = 1)
    (hret : ∀ h' tk' t, (∀ b o, s.heap.get? b = some o → h'.get? b = some o) → Q (.int ((srt ns).getD (ns.length / 2) 0) t) { s with heap := h', toks := tk' }) :
    wpAny (model PySem.Challenge.rw_dh5009_01.row.prog w) (AR dp un fr gd) (call (.ref 34) [.ref l]) Q E s := med_odd KX T hd1 hu (vs := vs.toList) ⟨_, hl, rfl, _, rfl⟩ hi h14 hodd hret
theorem even_a {w : World} {dp un : Nat} {fr : Option (List Env)} {gd : Option (List Code)} {s : Shared} {mg mb : Str → Option Value} {mean : ExcName → Option Value} {E : Value → Shared → Prop} {Q : Value → Shared → Prop}
    (KX : (hd.heap_39 w.params).In s.heap) (T : Top hd.view_39 (looseW hd.view_39 []) mean mg mb s.heap)
    (hd1 : dp + 2 < recursionLimit) (hu : un + 20 < cLine) {l : Addr} {vs : Array Value} {c : Nat} {ns : List Int}
    (hl : s.heap.get? l = some (W.listOf vs c)) (hi : IntsAre vs.toList ns) (h14 : ns.length ≤ 14)
    (hret : ∀ h' tk', (∀ b o, s.heap.get? b = some o → h'.get? b = some o) → Q (.bool (evenB ns)) { s with heap := h', toks := tk' }) :
    wpAny (model PySem.Challenge.rw_dh5009_01.row.prog w) (AR dp un fr gd) (call (.ref 64) [.ref l]) Q E s := even_call KX T hd1 hu (vs := vs.toList) ⟨_, hl, rfl, _, rfl⟩ hi h14 hret
theorem med_low_a {w : World} {dp un : Nat} {fr : Option (List Env)} {gd : Option (List Code)} {s : Shared} {mg mb : Str → Option Value} {mean : ExcName → Option Value} {E : Value → Shared → Prop} {Q : Value → Shared → Prop}
    (KX : (hd.heap_39 w.params).In s.heap) (T : Top hd.view_39 (looseW hd.view_39 []) mean mg mb s.heap)
    (hd1 : dp + 2 < recursionLimit) (hu : un + 20 < cLine) {l : Addr} {vs : Array Value} {c : Nat} {ns : List Int}
    (hl : s.heap.get? l = some (W.listOf vs c)) (hi : IntsAre vs.toList ns) (h14 : ns.length ≤ 14) (hev : ns.length % 2 = 0) (h0 : 0 < ns.length)
    (hret : ∀ h' tk' t, (∀ b o, s.heap.get? b = some o → h'.get? b = some o) → Q (.int ((srt ns).getD (ns.length / 2 - 1) 0) t) { s with heap := h', toks := tk' }) :
    wpAny (model PySem.Challenge.rw_dh5009_01.row.prog w) (AR dp un fr gd) (call (.ref 41) [.ref l]) Q E s := med_low KX T hd1 hu (vs := vs.toList) ⟨_, hl, rfl, _, rfl⟩ hi h14 hev h0 hret
theorem med_high_a {w : World} {dp un : Nat} {fr : Option (List Env)} {gd : Option (List Code)} {s : Shared} {mg mb : Str → Option Value} {mean : ExcName → Option Value} {E : Value → Shared → Prop} {Q : Value → Shared → Prop}
    (KX : (hd.heap_39 w.params).In s.heap) (T : Top hd.view_39 (looseW hd.view_39 []) mean mg mb s.heap)
    (hd1 : dp + 2 < recursionLimit) (hu : un + 20 < cLine) {l : Addr} {vs : Array Value} {c : Nat} {ns : List Int}
    (hl : s.heap.get? l = some (W.listOf vs c)) (hi : IntsAre vs.toList ns) (h14 : ns.length ≤ 14) (h0 : 0 < ns.length)
    (hret : ∀ h' tk' t, (∀ b o, s.heap.get? b = some o → h'.get? b = some o) → Q (.int ((srt ns).getD (ns.length / 2) 0) t) { s with heap := h', toks := tk' }) :
    wpAny (model PySem.Challenge.rw_dh5009_01.row.prog w) (AR dp un fr gd) (call (.ref 48) [.ref l]) Q E s := med_high KX T hd1 hu (vs := vs.toList) ⟨_, hl, rfl, _, rfl⟩ hi h14 h0 hret
theorem med_even_a {w : World} {dp un : Nat} {fr : Option (List Env)} {gd : Option (List Code)} {s : Shared} {mg mb : Str → Option Value} {mean : ExcName → Option Value} {E : Value → Shared → Prop} {Q : Value → Shared → Prop}
    (KX : (hd.heap_39 w.params).In s.heap) (T : Top hd.view_39 (looseW hd.view_39 []) mean mg mb s.heap)
    (hd1 : dp + 2 < recursionLimit) (hu : un + 20 < cLine) {l : Addr} {vs : Array Value} {c : Nat} {ns : List Int}
    (hl : s.heap.get? l = some (W.listOf vs c)) (hi : IntsAre vs.toList ns) (h14 : ns.length ≤ 14) (hev : ns.length % 2 = 0) (h0 : 0 < ns.length) (hb : ∀ x ∈ ns, x.natAbs < 2 ^ 40)
    (hret : ∀ h' tk' t, (∀ b o, s.heap.get? b = some o → h'.get? b = some o) → ∀ bits, Float64.cmpInt (Float64.mul (Float64.ofInt 2) bits) ((srt ns).getD (ns.length / 2 - 1) 0 + (srt ns).getD (ns.length / 2) 0) = some .eq → Q (.float bits t) { s with heap := h', toks := tk' }) :
    wpAny (model PySem.Challenge.rw_dh5009_01.row.prog w) (AR dp un fr gd) (call (.ref 34) [.ref l]) Q E s := med_even KX T hd1 hu (vs := vs.toList) ⟨_, hl, rfl, _, rfl⟩ hi h14 hev h0 hb hret
end
section
local macro_rules | `(tactic| walk_at "MSTEPS") => `(tactic| repeat' ((fail_if_success (with_reducible show wpAny _ _ (pyIter _) _ _ _)); (fail_if_success (with_reducible show wpAny _ _ (exec (PySem.Stmt.While _ _ _ _) _) _ _ _)); (fail_if_success (with_reducible show wpAny _ _ (eval (PySem.Expr.ListComp _ _ _ _) _) _ _ _)); (fail_if_success (with_reducible show wpAny _ _ (newTuple _) _ _ _)); (fail_if_success (with_reducible show wpAny _ _ (call (Value.ref 54) _) _ _ _)); (fail_if_success (with_reducible show wpAny _ _ (call (Value.ref 71) _) _ _ _)); (fail_if_success (with_reducible show wpAny _ _ (call (Value.ref 78) _) _ _ _)); first | (k_unfold; (try dsimp only)) | (k_end; kc_close) | walk1 | (dsimp only; walk1) | (leave1; walk_say "STEP leave1"; (try dsimp only)) | fail "no step"))
local macro_rules | `(tactic| walk_at "MROOM") => `(tactic| first | omega | ((try dsimp only [AR]); omega) | ((try simp only [depth_deeper, units_deeper]); (try dsimp only [AR]); omega))
local macro_rules | `(tactic| walk_at "call ref") => `(tactic| ((with_reducible show wpAny _ _ (call (Value.ref 59) [Value.ref _, Value.ref _, Value.ref _]) _ _ _); (rename Fr _ _ _ _ => cF); (rename News _ _ _ _ => cN); (with_unfolding_all refine' sides_call ?k1 ?k2 ?k3 ?k4 ?k5 ?k6 ?k7 ?k8 ?k9 ?k10 ?b1 ?b2 ?b3 ?b4 ?b5 ?b6 ?b7 ?b8 ?_); (case k1 => exact Frag.In.keeps (by assumption) (Fr.keep cF)); (case k2 => exact Top.keeps (by assumption) (Fr.keep cF)); (case k3 => walk_at "MROOM"); (case k4 => walk_at "MROOM"); (case k5 => exact IsTup.keeps (by assumption) (Fr.keep cF)); (case k6 => exact IsTup.keeps (by assumption) (Fr.keep cF)); (case k7 => exact Heap.IsList.at (by assumption) (fun _ e => Fr.keep cF _ _ e)); (case k8 => exact pts_keep (by assumption) (Fr.keep cF)); (case k9 => omega); (case k10 => assumption); (case b1 => assumption); (case b2 => assumption); (case b3 => assumption); (case b4 => assumption); (case b5 => assumption); (case b6 => assumption); (case b7 => assumption); (case b8 => assumption); (intro D' h' tk' vs' c' kp' hn' ho' hi'; have N' := news_add cF cN kp' hn' ho'; have F' := Fr.keeps cF kp'; have l1 := allNe_of hn' cN; (try simp only [AllNe, List.foldr_cons, List.foldr_nil, and_true] at l1); clear cF cN ho' kp'; (try dsimp only))))
local macro_rules | `(tactic| walk_at "MLEN") => `(tactic| (simp only [List.length_map, List.length_append]; first | assumption | omega))
local macro_rules | `(tactic| walk_at "call ref") => `(tactic| ((with_reducible show wpAny _ _ (call (Value.ref 64) [Value.ref _]) _ _ _); (rename Fr _ _ _ _ => cF); (rename News _ _ _ _ => cN); (with_unfolding_all refine' even_a ?k1 ?k2 ?k3 ?k4 ?k5 ?k6 ?k7 ?_); (case k1 => exact Frag.In.keeps (by assumption) (Fr.keep cF)); (case k2 => exact Top.keeps (by assumption) (Fr.keep cF)); (case k3 => walk_at "MROOM"); (case k4 => walk_at "MROOM"); (case k5 => exact (cN (_, W.listOf _ _) (by k_mem)).1); (case k6 => assumption); (case k7 => walk_at "MLEN"); (intro h' tk' kp'; have N' := News.grown cN kp'; have F' := Fr.keeps cF kp'; clear cF cN kp'; (try dsimp only))))
local macro_rules | `(tactic| walk_at "call ref") => `(tactic| ((with_reducible show wpAny _ _ (call (Value.ref 41) [Value.ref _]) _ _ _); (rename Fr _ _ _ _ => cF); (rename News _ _ _ _ => cN); (with_unfolding_all refine' med_low_a ?k1 ?k2 ?k3 ?k4 ?k5 ?k6 ?k7 ?k8 ?k9 ?_); (case k1 => exact Frag.In.keeps (by assumption) (Fr.keep cF)); (case k2 => exact Top.keeps (by assumption) (Fr.keep cF)); (case k3 => walk_at "MROOM"); (case k4 => walk_at "MROOM"); (case k5 => exact (cN (_, W.listOf _ _) (by k_mem)).1); (case k6 => assumption); (case k7 => walk_at "MLEN"); (case k8 => walk_at "MLEN"); (case k9 => walk_at "MLEN"); (intro h' tk' t' kp'; have N' := News.grown cN kp'; have F' := Fr.keeps cF kp'; clear cF cN kp'; (try dsimp only))))
local macro_rules | `(tactic| walk_at "call ref") => `(tactic| ((with_reducible show wpAny _ _ (call (Value.ref 48) [Value.ref _]) _ _ _); (rename Fr _ _ _ _ => cF); (rename News _ _ _ _ => cN); (with_unfolding_all refine' med_high_a ?k1 ?k2 ?k3 ?k4 ?k5 ?k6 ?k7 ?k8 ?_); (case k1 => exact Frag.In.keeps (by assumption) (Fr.keep cF)); (case k2 => exact Top.keeps (by assumption) (Fr.keep cF)); (case k3 => walk_at "MROOM"); (case k4 => walk_at "MROOM"); (case k5 => exact (cN (_, W.listOf _ _) (by k_mem)).1); (case k6 => assumption); (case k7 => walk_at "MLEN"); (case k8 => walk_at "MLEN"); (intro h' tk' t' kp'; have N' := News.grown cN kp'; have F' := Fr.keeps cF kp'; clear cF cN kp'; (try dsimp only))))
local macro_rules | `(tactic| walk_at "call ref") => `(tactic| ((with_reducible show wpAny _ _ (call (Value.ref 34) [Value.ref _]) _ _ _); (rename Fr _ _ _ _ => cF); (rename News _ _ _ _ => cN); (with_unfolding_all refine' med_odd_a ?k1 ?k2 ?k3 ?k4 ?k5 ?k6 ?k7 ?k8 ?_); (case k1 => exact Frag.In.keeps (by assumption) (Fr.keep cF)); (case k2 => exact Top.keeps (by assumption) (Fr.keep cF)); (case k3 => walk_at "MROOM"); (case k4 => walk_at "MROOM"); (case k5 => exact (cN (_, W.listOf _ _) (by k_mem)).1); (case k6 => assumption); (case k7 => walk_at "MLEN"); (case k8 => walk_at "MLEN"); (intro h' tk' t' kp'; have N' := News.grown cN kp'; have F' := Fr.keeps cF kp'; clear cF cN kp'; (try dsimp only))))
local macro_rules | `(tactic| walk_at "call ref") => `(tactic| ((with_reducible show wpAny _ _ (call (Value.ref 34) [Value.ref _]) _ _ _); (rename Fr _ _ _ _ => cF); (rename News _ _ _ _ => cN); (with_unfolding_all refine' med_even_a ?k1 ?k2 ?k3 ?k4 ?k5 ?k6 ?k7 ?k8 ?k9 ?k10 ?_); (case k1 => exact Frag.In.keeps (by assumption) (Fr.keep cF)); (case k2 => exact Top.keeps (by assumption) (Fr.keep cF)); (case k3 => walk_at "MROOM"); (case k4 => walk_at "MROOM"); (case k5 => exact (cN (_, W.listOf _ _) (by k_mem)).1); (case k6 => assumption); (case k7 => walk_at "MLEN"); (case k8 => walk_at "MLEN"); (case k9 => walk_at "MLEN"); (case k10 => assumption); (intro h' tk' t' kp' bits' hbits'; have N' := News.grown cN kp'; have F' := Fr.keeps cF kp'; clear cF cN kp'; (try dsimp only))))
local macro_rules | `(tactic| walk_at "call builtin:len") => `(tactic| ((rename Fr _ _ _ _ => cF); refine len_base (by assumption) cF (by assumption) (by omega) ?_))

set_option maxRecDepth 100000 in
set_option maxHeartbeats 8000000 in
theorem both_call {w : World} {dp un : Nat} {fr : Option (List Env)} {gd : Option (List Code)} {s : Shared} {mg mb : Str → Option Value} {mean : ExcName → Option Value} {E : Value → Shared → Prop} {Q : Value → Shared → Prop}
    (KX : (hd.heap_39 w.params).In s.heap) (T : Top hd.view_39 (looseW hd.view_39 []) mean mg mb s.heap)
    (hd1 : dp + 4 < recursionLimit) (hu : un + 60 < cLine) {lr lb : Addr} {vr vb : List Value} {R B : List (Int × Int)}
    (hlr : s.heap.IsList lr vr.toArray) (hpr : Paired (PtAt s.heap) vr R) (hlb : s.heap.IsList lb vb.toArray) (hpb : Paired (PtAt s.heap) vb B)
    (h14r : R.length ≤ 14) (h14b : B.length ≤ 14) (hor : R.length % 2 = 1) (hob : B.length % 2 = 1)
    (hbr : ∀ p ∈ R, 0 ≤ p.1 ∧ p.1 < 1009 ∧ 0 ≤ p.2 ∧ p.2 < 1009) (hbb : ∀ p ∈ B, 0 ≤ p.1 ∧ p.1 < 1009 ∧ 0 ≤ p.2 ∧ p.2 < 1009)
    (hgood : ∀ a ∈ R, ∀ b ∈ B, MedOk (R.map (side a b)) ∧ MedOk (B.map (side a b)))
    (hret : ∀ h' tk' t, (∀ b o, s.heap.get? b = some o → h'.get? b = some o) → Q (.int (bothN R B : Nat) t) { s with heap := h', toks := tk' }) :
    wpAny (model PySem.Challenge.rw_dh5009_01.row.prog w) (AR dp un fr gd) (call (.ref 71) [.ref lr, .ref lb]) Q E s := by
  w_top off
  revert KX; k_fill; intro KX
  refine wpAny_call ?_
  with_unfolding_all refine' call_plain_ret (binds := [(Str.ofString "red", .ref lr), (Str.ofString "blue", .ref lb)]) ?a1 ?a2 ?a3 ?a4 ?a5 ?a6 ?a7 ?a8 ?b1 ?b2 ?b3 ?b4
  case a2 => exact Frag.In.keeps (by assumption) (fun _ _ h => h) _ _ (by k_is)
  case a3 => exact rfl
  case a4 => exact Top.nolimit (by assumption)
  case a5 => exact codeRec_of (by assumption) (by k_is)
  case a6 => exact rfl
  case a7 => exact locs rfl
  case a1 => show dp < recursionLimit; omega
  case b1 => rfl
  case b2 => rfl
  case b3 => rfl
  case b4 => decide
  case a8 =>
    intro h₁ F
    have N := News.nil (h₀ := s.heap) (L := s.heap.objs.size) (h := h₁)
    walk_at "MSTEPS"
    with_unfolding_all refine For_invV s.heap (by rfl) (by rfl) ?_
    walk_at "MSTEPS"
    rename Fr _ _ _ _ => F1
    rename News _ _ _ _ => N1
    refine loop_list (J := fun i m nx => nx = [] ∧ (∃ t, m (Str.ofString "found") = some (.int (((R.take i).map fun a => B.countP (okB R B a)).sum : Nat) t)) ∧ m (Str.ofString "red") = some (.ref lr) ∧ m (Str.ofString "blue") = some (.ref lb)) (by rfl) hlr F1 N1 ?_ ?_ ?_
    · exact ⟨rfl, ⟨_, by rfl⟩, by rfl, by rfl⟩
    · rintro i v m₁ nx h tk I oI hv ⟨rfl, ⟨tf, hm1⟩, hm2, hm3⟩ - - F2 N2
      obtain ⟨⟨ax, ay⟩, hpa, pa, t1, t2, rfl, hat⟩ := paired_get hpr i v hv
      obtain ⟨qa1, qa2, qa3, qa4⟩ := hbr _ (List.mem_of_getElem? hpa)
      dsimp only at qa1 qa2 qa3 qa4 hat
      clear F1 N1
      rw [frq hm1] at F2
      rw [frq hm2] at F2
      rw [frq hm3] at F2
      dsimp only at F2
      dsimp only [List.cons_append, List.nil_append] at N2
      walk_at "MSTEPS"
      with_unfolding_all refine For_invV s.heap (by rfl) (by rfl) ?_
      walk_at "MSTEPS"
      rename Fr _ _ _ _ => F3
      rename News _ _ _ _ => N3
      refine loop_list (J := fun j m nx => nx = [(I, oI)] ∧ (∃ t, m (Str.ofString "found") = some (.int ((((R.take i).map fun a => B.countP (okB R B a)).sum + (B.take j).countP (okB R B (ax, ay)) : Nat) : Int) t)) ∧ m (Str.ofString "red") = some (.ref lr) ∧ m (Str.ofString "blue") = some (.ref lb) ∧ m (Str.ofString "a") = some (.ref pa)) (by rfl) hlb F3 N3 ?_ ?_ ?_
      · exact ⟨rfl, ⟨_, by rfl⟩, by rfl, by rfl, by rfl⟩
      · rintro j v m₂ nx h tk I2 oI2 hv2 ⟨rfl, ⟨tg, hn1⟩, hn2, hn3, hn4⟩ - hlt F4 N4
        obtain ⟨⟨bx, by'⟩, hpb', pb, t3, t4, rfl, hbt⟩ := paired_get hpb j v hv2
        obtain ⟨qb1, qb2, qb3, qb4⟩ := hbb _ (List.mem_of_getElem? hpb')
        dsimp only at qb1 qb2 qb3 qb4 hbt
        clear F3 N3
        rw [frq hn1] at F4
        rw [frq hn2] at F4
        rw [frq hn3] at F4
        rw [frq hn4] at F4
        dsimp only at F4
        dsimp only [List.cons_append, List.nil_append] at N4
        obtain ⟨g1, g2⟩ := hgood _ (List.mem_of_getElem? hpa) _ (List.mem_of_getElem? hpb')
        walk_at "MSTEPS"
        · exact (med_bad g1 (by assumption)).elim
        · exact (med_bad g2 (by assumption)).elim
        · have hk : okB R B (ax, ay) (bx, by') = true := by
            unfold okB
            rw [med_tt g1 (by assumption), med_tt g2 (by assumption)]
            rfl
          have e := count_tt (S := ((R.take i).map fun a => B.countP (okB R B a)).sum) hpb' hk
          refine TEnd.mk [(I, oI)] (by assumption) (by assumption) (by lcg_sub) rfl ⟨rfl, ?_, by rfl, by rfl, by rfl⟩
          rw [e]
          exact ⟨_, by rfl⟩
        · have hk : okB R B (ax, ay) (bx, by') = false := by
            unfold okB
            rw [med_tt g1 (by assumption), med_ff g2 (by assumption)]
            rfl
          have e := count_ff (S := ((R.take i).map fun a => B.countP (okB R B a)).sum) hpb' hk
          refine TEnd.mk [(I, oI)] (by assumption) (by assumption) (by lcg_sub) rfl ⟨rfl, ?_, by rfl, by rfl, by rfl⟩
          rw [e]
          exact ⟨_, by rfl⟩
        · have hk : okB R B (ax, ay) (bx, by') = false := by
            unfold okB
            rw [med_ff g1 (by assumption)]
            rfl
          have e := count_ff (S := ((R.take i).map fun a => B.countP (okB R B a)).sum) hpb' hk
          refine TEnd.mk [(I, oI)] (by assumption) (by assumption) (by lcg_sub) rfl ⟨rfl, ?_, by rfl, by rfl, by rfl⟩
          rw [e]
          exact ⟨_, by rfl⟩
      · rintro m₂ nx h tk ⟨rfl, ⟨tg, hn1⟩, hn2, hn3, hn4⟩ - F4 N4
        clear F3 N3
        have e : (((R.take (i + 1)).map fun a => B.countP (okB R B a)).sum : Nat) = ((R.take i).map fun a => B.countP (okB R B a)).sum + (B.take vb.length).countP (okB R B (ax, ay)) := by
          rw [List.take_add_one, hpa, hpb.length, List.take_length]
          simp
        walk_at "MSTEPS"
        refine TEnd.mk [] F4 N4 (by lcg_sub) rfl ⟨rfl, ⟨tg, ?_⟩, hn2, hn3⟩
        rw [e]
        exact hn1
    · rintro m₁ nx h tk ⟨rfl, ⟨tf, hm1⟩, hm2, hm3⟩ - F2 N2
      clear F1 N1
      have e : (((R.take vr.length).map fun a => B.countP (okB R B a)).sum : Nat) = bothN R B := by
        rw [hpr.length, List.take_length]
        rfl
      rw [e] at hm1
      rw [frq hm1] at F2
      walk_at "MSTEPS"
      all_goals exact hret _ _ _ (Fr.keep (by assumption))
end
section
local macro_rules | `(tactic| walk_at "MSTEPS") => `(tactic| repeat' ((fail_if_success (with_reducible show wpAny _ _ (pyIter _) _ _ _)); (fail_if_success (with_reducible show wpAny _ _ (exec (PySem.Stmt.While _ _ _ _) _) _ _ _)); (fail_if_success (with_reducible show wpAny _ _ (eval (PySem.Expr.ListComp _ _ _ _) _) _ _ _)); (fail_if_success (with_reducible show wpAny _ _ (newTuple _) _ _ _)); (fail_if_success (with_reducible show wpAny _ _ (call (Value.ref 54) _) _ _ _)); (fail_if_success (with_reducible show wpAny _ _ (call (Value.ref 71) _) _ _ _)); (fail_if_success (with_reducible show wpAny _ _ (call (Value.ref 78) _) _ _ _)); first | (k_unfold; (try dsimp only)) | (k_end; kc_close) | walk1 | (dsimp only; walk1) | (leave1; walk_say "STEP leave1"; (try dsimp only)) | fail "no step"))
local macro_rules | `(tactic| walk_at "MROOM") => `(tactic| first | omega | ((try dsimp only [AR]); omega) | ((try simp only [depth_deeper, units_deeper]); (try dsimp only [AR]); omega))
local macro_rules | `(tactic| walk_at "call ref") => `(tactic| ((with_reducible show wpAny _ _ (call (Value.ref 59) [Value.ref _, Value.ref _, Value.ref _]) _ _ _); (rename Fr _ _ _ _ => cF); (rename News _ _ _ _ => cN); (with_unfolding_all refine' sides_call ?k1 ?k2 ?k3 ?k4 ?k5 ?k6 ?k7 ?k8 ?k9 ?k10 ?b1 ?b2 ?b3 ?b4 ?b5 ?b6 ?b7 ?b8 ?_); (case k1 => exact Frag.In.keeps (by assumption) (Fr.keep cF)); (case k2 => exact Top.keeps (by assumption) (Fr.keep cF)); (case k3 => walk_at "MROOM"); (case k4 => walk_at "MROOM"); (case k5 => exact IsTup.keeps (by assumption) (Fr.keep cF)); (case k6 => exact IsTup.keeps (by assumption) (Fr.keep cF)); (case k7 => exact Heap.IsList.at (by assumption) (fun _ e => Fr.keep cF _ _ e)); (case k8 => exact pts_keep (by assumption) (Fr.keep cF)); (case k9 => omega); (case k10 => assumption); (case b1 => assumption); (case b2 => assumption); (case b3 => assumption); (case b4 => assumption); (case b5 => assumption); (case b6 => assumption); (case b7 => assumption); (case b8 => assumption); (intro D' h' tk' vs' c' kp' hn' ho' hi'; have N' := news_add cF cN kp' hn' ho'; have F' := Fr.keeps cF kp'; have l1 := allNe_of hn' cN; (try simp only [AllNe, List.foldr_cons, List.foldr_nil, and_true] at l1); clear cF cN ho' kp'; (try dsimp only))))
local macro_rules | `(tactic| walk_at "MLEN") => `(tactic| (simp only [List.length_map, List.length_append]; first | assumption | omega))
local macro_rules | `(tactic| walk_at "call ref") => `(tactic| ((with_reducible show wpAny _ _ (call (Value.ref 64) [Value.ref _]) _ _ _); (rename Fr _ _ _ _ => cF); (rename News _ _ _ _ => cN); (with_unfolding_all refine' even_a ?k1 ?k2 ?k3 ?k4 ?k5 ?k6 ?k7 ?_); (case k1 => exact Frag.In.keeps (by assumption) (Fr.keep cF)); (case k2 => exact Top.keeps (by assumption) (Fr.keep cF)); (case k3 => walk_at "MROOM"); (case k4 => walk_at "MROOM"); (case k5 => exact (cN (_, W.listOf _ _) (by k_mem)).1); (case k6 => assumption); (case k7 => walk_at "MLEN"); (intro h' tk' kp'; have N' := News.grown cN kp'; have F' := Fr.keeps cF kp'; clear cF cN kp'; (try dsimp only))))
local macro_rules | `(tactic| walk_at "call ref") => `(tactic| ((with_reducible show wpAny _ _ (call (Value.ref 41) [Value.ref _]) _ _ _); (rename Fr _ _ _ _ => cF); (rename News _ _ _ _ => cN); (with_unfolding_all refine' med_low_a ?k1 ?k2 ?k3 ?k4 ?k5 ?k6 ?k7 ?k8 ?k9 ?_); (case k1 => exact Frag.In.keeps (by assumption) (Fr.keep cF)); (case k2 => exact Top.keeps (by assumption) (Fr.keep cF)); (case k3 => walk_at "MROOM"); (case k4 => walk_at "MROOM"); (case k5 => exact (cN (_, W.listOf _ _) (by k_mem)).1); (case k6 => assumption); (case k7 => walk_at "MLEN"); (case k8 => walk_at "MLEN"); (case k9 => walk_at "MLEN"); (intro h' tk' t' kp'; have N' := News.grown cN kp'; have F' := Fr.keeps cF kp'; clear cF cN kp'; (try dsimp only))))
local macro_rules | `(tactic| walk_at "call ref") => `(tactic| ((with_reducible show wpAny _ _ (call (Value.ref 48) [Value.ref _]) _ _ _); (rename Fr _ _ _ _ => cF); (rename News _ _ _ _ => cN); (with_unfolding_all refine' med_high_a ?k1 ?k2 ?k3 ?k4 ?k5 ?k6 ?k7 ?k8 ?_); (case k1 => exact Frag.In.keeps (by assumption) (Fr.keep cF)); (case k2 => exact Top.keeps (by assumption) (Fr.keep cF)); (case k3 => walk_at "MROOM"); (case k4 => walk_at "MROOM"); (case k5 => exact (cN (_, W.listOf _ _) (by k_mem)).1); (case k6 => assumption); (case k7 => walk_at "MLEN"); (case k8 => walk_at "MLEN"); (intro h' tk' t' kp'; have N' := News.grown cN kp'; have F' := Fr.keeps cF kp'; clear cF cN kp'; (try dsimp only))))
local macro_rules | `(tactic| walk_at "call ref") => `(tactic| ((with_reducible show wpAny _ _ (call (Value.ref 34) [Value.ref _]) _ _ _); (rename Fr _ _ _ _ => cF); (rename News _ _ _ _ => cN); (with_unfolding_all refine' med_odd_a ?k1 ?k2 ?k3 ?k4 ?k5 ?k6 ?k7 ?k8 ?_); (case k1 => exact Frag.In.keeps (by assumption) (Fr.keep cF)); (case k2 => exact Top.keeps (by assumption) (Fr.keep cF)); (case k3 => walk_at "MROOM"); (case k4 => walk_at "MROOM"); (case k5 => exact (cN (_, W.listOf _ _) (by k_mem)).1); (case k6 => assumption); (case k7 => walk_at "MLEN"); (case k8 => walk_at "MLEN"); (intro h' tk' t' kp'; have N' := News.grown cN kp'; have F' := Fr.keeps cF kp'; clear cF cN kp'; (try dsimp only))))
local macro_rules | `(tactic| walk_at "call ref") => `(tactic| ((with_reducible show wpAny _ _ (call (Value.ref 34) [Value.ref _]) _ _ _); (rename Fr _ _ _ _ => cF); (rename News _ _ _ _ => cN); (with_unfolding_all refine' med_even_a ?k1 ?k2 ?k3 ?k4 ?k5 ?k6 ?k7 ?k8 ?k9 ?k10 ?_); (case k1 => exact Frag.In.keeps (by assumption) (Fr.keep cF)); (case k2 => exact Top.keeps (by assumption) (Fr.keep cF)); (case k3 => walk_at "MROOM"); (case k4 => walk_at "MROOM"); (case k5 => exact (cN (_, W.listOf _ _) (by k_mem)).1); (case k6 => assumption); (case k7 => walk_at "MLEN"); (case k8 => walk_at "MLEN"); (case k9 => walk_at "MLEN"); (case k10 => assumption); (intro h' tk' t' kp' bits' hbits'; have N' := News.grown cN kp'; have F' := Fr.keeps cF kp'; clear cF cN kp'; (try dsimp only))))
local macro_rules | `(tactic| walk_at "call builtin:len") => `(tactic| ((rename Fr _ _ _ _ => cF); refine len_base (by assumption) cF (by assumption) (by omega) ?_))

local macro_rules | `(tactic| walk_at "subscriptTail") => `(tactic| ((with_reducible show wpAny _ _ (subscriptTail _ _ (Value.ref _) (Value.int _ _)) _ _ _); (rename Fr _ _ _ _ => cF); (with_unfolding_all refine' item_list ?k1 ?k2 ?k3 ?k4 ?_); (case k1 => exact Heap.IsList.at (by assumption) (fun _ e => Fr.keep cF _ _ e)); (case k4 => assumption); (case k2 => omega); (case k3 => omega)))
def LinesIs (ls : List Int) (m : Str → Option Value) (nx : List (Addr × Obj)) : Prop :=
  ∃ a vals c, nx = [(a, W.listOf (List.toArray vals) c)] ∧ IntsAre vals ls ∧ m (Str.ofString "lines") = some (.ref a)
set_option maxRecDepth 100000 in
set_option maxHeartbeats 8000000 in
theorem lines_call {w : World} {dp un : Nat} {fr : Option (List Env)} {gd : Option (List Code)} {s : Shared} {mg mb : Str → Option Value} {mean : ExcName → Option Value} {E : Value → Shared → Prop} {Q : Value → Shared → Prop}
    (KX : (hd.heap_39 w.params).In s.heap) (T : Top hd.view_39 (looseW hd.view_39 []) mean mg mb s.heap)
    (hd1 : dp + 4 < recursionLimit) (hu : un + 60 < cLine) {l : Addr} {vs : List Value} {P : List (Int × Int)}
    (hl : s.heap.IsList l vs.toArray) (hp : Paired (PtAt s.heap) vs P) (h14 : P.length ≤ 14) (hev : P.length % 2 = 0) (h0 : 0 < P.length)
    (hbd : ∀ p ∈ P, 0 ≤ p.1 ∧ p.1 < 1009 ∧ 0 ≤ p.2 ∧ p.2 < 1009)
    (hgood : ∀ (i j : Nat) a b, i < j → P[i]? = some a → P[j]? = some b → LowOk (P.map (side a b)))
    (hret : ∀ D h' tk' vs' c, (∀ b o, s.heap.get? b = some o → h'.get? b = some o) → s.heap.get? D = none → h'.get? D = some (W.listOf vs' c) → IntsAre vs'.toList (linesF P) → Q (.ref D) { s with heap := h', toks := tk' }) :
    wpAny (model PySem.Challenge.rw_dh5009_01.row.prog w) (AR dp un fr gd) (call (.ref 78) [.ref l]) Q E s := by
  w_top off
  revert KX; k_fill; intro KX
  refine wpAny_call ?_
  with_unfolding_all refine' call_plain_ret (binds := [(Str.ofString "points", .ref l)]) ?a1 ?a2 ?a3 ?a4 ?a5 ?a6 ?a7 ?a8 ?b1 ?b2 ?b3 ?b4
  case a2 => exact Frag.In.keeps (by assumption) (fun _ _ h => h) _ _ (by k_is)
  case a3 => exact rfl
  case a4 => exact Top.nolimit (by assumption)
  case a5 => exact codeRec_of (by assumption) (by k_is)
  case a6 => exact rfl
  case a7 => exact locs rfl
  case a1 => show dp < recursionLimit; omega
  case b1 => rfl
  case b2 => rfl
  case b3 => rfl
  case b4 => decide
  case a8 =>
    intro h₁ F
    have N := News.nil (h₀ := s.heap) (L := s.heap.objs.size) (h := h₁)
    have hvl := hp.length
    walk_at "MSTEPS"
    rename IsRange _ _ _ _ _ _ _ _ => R1
    rename Fr _ _ _ _ => F1
    rename News _ _ _ _ => N1
    rename IntsAre _ _ => I1
    refine loop_range (n := P.length) (J := fun i m nx => LinesIs (colF P P.length i) m nx ∧ m (Str.ofString "points") = some (.ref l)) (by rfl) R1 (by omega) (by omega) (by omega) (by omega) (by omega) F1 (news := [_]) (fun p hp => N1 p (List.mem_cons.mpr (.inl (List.mem_singleton.mp hp)))) ?_ ?_ ?_
    · refine ⟨⟨_, _, _, rfl, ?_, by rfl⟩, by rfl⟩
      have e : (List.replicate ((P.length : Nat) : Int).toNat [(0 : Int)]).flatten = colF P P.length 0 := by simp [colF]
      rw [← e]
      exact I1
    · clear I1
      rintro i t m₁ nx h tk I oI hin ⟨⟨a, vals, c, rfl, hI, hm1⟩, hm2⟩ hadr hlt F2 N2
      have hlt' : @LT.lt Nat _ a I := hlt _ List.mem_cons_self
      obtain ⟨v1, hv1⟩ : ∃ v, vs[i]? = some v := ⟨_, List.getElem?_eq_getElem (by omega)⟩
      obtain ⟨⟨ax, ay⟩, hpa, pa, t1, t2, rfl, hat⟩ := paired_get hp i v1 hv1
      obtain ⟨qa1, qa2, qa3, qa4⟩ := hbd _ (List.mem_of_getElem? hpa)
      dsimp only at qa1 qa2 qa3 qa4 hat
      have hx1 : vs.toArray[(0 + (i : Int)).toNat]? = some (.ref pa) := by
        rw [show (0 + (i : Int)).toNat = i by omega]; simpa using hv1
      clear R1 F1 N1 hlt
      rw [frq hm1] at F2
      rw [frq hm2] at F2
      dsimp only at F2
      dsimp only [List.cons_append, List.nil_append] at N2
      walk_at "MSTEPS"
      rename IsRange _ _ _ _ _ _ _ _ => R3
      rename Fr _ _ _ _ => F3
      rename News _ _ _ _ => N3
      refine loop_range (n := P.length - i - 1) (J := fun k m nx => (∃ vals c, nx = [(a, W.listOf (List.toArray vals) c), (I, oI)] ∧ IntsAre vals (rowF P i (colF P P.length i) k)) ∧ m (Str.ofString "lines") = some (.ref a) ∧ m (Str.ofString "points") = some (.ref l) ∧ m (Str.ofString "i") = some (.int (0 + (i : Int)) t)) (by rfl) R3 (by omega) (by omega) (by omega) (by omega) (by omega) F3 N3 ?_ ?_ ?_
      · exact ⟨⟨_, _, rfl, hI⟩, by rfl, by rfl, by rfl⟩
      · clear R3 F3 N3 hI
        rintro k t' m₂ nx h tk I2 oI2 hin2 ⟨⟨vals, c, rfl, hI⟩, hn1, hn2, hn3⟩ - hlt F4 N4
        have hlt1 : @LT.lt Nat _ a I2 := hlt _ List.mem_cons_self
        have hlt2 : @LT.lt Nat _ I I2 := hlt _ (List.mem_cons_of_mem _ List.mem_cons_self)
        clear hlt
        obtain ⟨v2, hv2⟩ : ∃ v, vs[i + 1 + k]? = some v := ⟨_, List.getElem?_eq_getElem (by omega)⟩
        obtain ⟨⟨bx, by'⟩, hpb, pb, t3, t4, rfl, hbt⟩ := paired_get hp (i + 1 + k) v2 hv2
        obtain ⟨qb1, qb2, qb3, qb4⟩ := hbd _ (List.mem_of_getElem? hpb)
        dsimp only at qb1 qb2 qb3 qb4 hbt
        have hx2 : vs.toArray[(0 + (i : Int) + 1 + (k : Int)).toNat]? = some (.ref pb) := by
          rw [show (0 + (i : Int) + 1 + (k : Int)).toNat = i + 1 + k by omega]; simpa using hv2
        have hb40 := sides_small hbd (List.mem_of_getElem? hpa) (List.mem_of_getElem? hpb)
        rw [frq hn1] at F4
        rw [frq hn2] at F4
        rw [frq hn3] at F4
        dsimp only at F4
        dsimp only [List.cons_append, List.nil_append] at N4
        have g := hgood i (i + 1 + k) _ _ (by omega) hpa hpb
        have hsucc := rowF_succ P i (colF P P.length i) k
        rw [pairB_of hpa hpb] at hsucc
        have hll : (rowF P i (colF P P.length i) k).length = P.length := by rw [rowF_length, colF_length]
        rw [hsucc]
        clear hsucc
        generalize rowF P i (colF P P.length i) k = ls at hI hll ⊢
        walk_at "MSTEPS"
        all_goals first
          | exact (fl_bad (by assumption) (by assumption)).elim
          | exact (low_bad1 g (by assumption) (by assumption)).elim
          | exact (low_bad2 g (by assumption) (by assumption)).elim
          | exact (low_bad3 g (by assumption) (by assumption)).elim
          | (have e := low_f1 g (by assumption)
             refine TEnd.mk [(a, W.listOf (List.toArray vals) c), (I, oI)] (by assumption) (by assumption) (by lcg_sub) rfl ⟨⟨_, _, rfl, ?_⟩, by rfl, by rfl, by rfl⟩
             rw [e]
             exact hI)
          | (have e := low_f2 g (by assumption)
             refine TEnd.mk [(a, W.listOf (List.toArray vals) c), (I, oI)] (by assumption) (by assumption) (by lcg_sub) rfl ⟨⟨_, _, rfl, ?_⟩, by rfl, by rfl, by rfl⟩
             rw [e]
             exact hI)
          | (have e := low_tt g (by assumption) (by assumption)
             have e1 : (0 + (i : Int)).toNat = i := by omega
             have e2 : (0 + (i : Int) + 1 + (k : Int)).toNat = i + 1 + k := by omega
             have key : bump ls i (i + 1 + k) true = (ls.set (0 + (i : Int)).toNat (ls.getD (0 + (i : Int)).toNat 0 + 1)).set (0 + (i : Int) + 1 + (k : Int)).toNat ((ls.set (0 + (i : Int)).toNat (ls.getD (0 + (i : Int)).toNat 0 + 1)).getD (0 + (i : Int) + 1 + (k : Int)).toNat 0 + 1) := by
               rw [e1, e2]
               exact bump_tt ls i (i + 1 + k)
             rename IntsAre (List.set (List.set _ _ _) _ _) _ => hfin
             rw [e, key]
             refine TEnd.mk [(a, W.listOf (List.toArray _) c), (I, oI)] (by assumption) (by assumption) (by lcg_sub) rfl ⟨⟨_, _, rfl, hfin⟩, by rfl, by rfl, by rfl⟩)
          | skip
      · rintro m₂ nx h tk ⟨⟨vals, c, rfl, hI⟩, hn1, hn2, hn3⟩ - F4 N4
        clear R3 F3 N3
        rw [← colF_succ] at hI
        walk_at "MSTEPS"
        exact TEnd.mk [(a, W.listOf (List.toArray vals) c)] F4 N4 (by lcg_sub) hadr ⟨⟨_, _, _, rfl, hI, hn1⟩, hn2⟩
    · rintro m₁ nx h tk ⟨⟨a, vals, c, rfl, hI, hm1⟩, hm2⟩ - F2 N2
      clear R1 F1 N1
      rw [frq hm1] at F2
      walk_at "MSTEPS"
      rename News _ _ _ _ => N9
      (try dsimp only)
      exact hret a _ _ vals.toArray c (Fr.keep (by assumption)) (N9 _ List.mem_cons_self).2.2 (N9 _ List.mem_cons_self).1 hI
end
section
/- plain law 1: sorted lists and signs -/
theorem srt_lt {v : Int} : ∀ {s : List Int}, s.Pairwise (· ≤ ·) → ∀ {i : Nat}, i < s.length → (s.getD i 0 < v ↔ i < s.countP fun x => decide (x < v))
  | [], _, i, h => by simp at h
  | a :: t, hp, i, h => by
    have h1 := List.pairwise_cons.mp hp
    by_cases ha : a < v
    · rw [List.countP_cons_of_pos (by simpa using ha)]
      cases i with
      | zero => simp [ha]
      | succ i =>
        have := srt_lt (v := v) h1.2 (i := i) (by simpa using h)
        simp only [List.getD_cons_succ]
        omega
    · have hall : ∀ x ∈ a :: t, ¬ x < v := by
        intro x hx
        rcases List.mem_cons.mp hx with rfl | hx
        · exact ha
        · have := h1.1 x hx
          omega
      have h0 : (a :: t).countP (fun x => decide (x < v)) = 0 := List.countP_eq_zero.mpr fun x hx => by simpa using hall x hx
      rw [h0]
      have hm : (a :: t).getD i 0 ∈ a :: t := by
        rw [List.getD_eq_getElem?_getD, List.getElem?_eq_getElem h]
        exact List.getElem_mem h
      have := hall _ hm
      omega
theorem srt_gt {v : Int} : ∀ {s : List Int}, s.Pairwise (· ≤ ·) → ∀ {i : Nat}, i < s.length → (v < s.getD i 0 ↔ s.length ≤ i + s.countP fun x => decide (v < x))
  | [], _, i, h => by simp at h
  | a :: t, hp, i, h => by
    have h1 := List.pairwise_cons.mp hp
    by_cases ha : v < a
    · have hall : ∀ x ∈ a :: t, v < x := by
        intro x hx
        rcases List.mem_cons.mp hx with rfl | hx
        · exact ha
        · have := h1.1 x hx
          omega
      have h0 : (a :: t).countP (fun x => decide (v < x)) = (a :: t).length := List.countP_eq_length.mpr fun x hx => by simpa using hall x hx
      rw [h0]
      have hm : (a :: t).getD i 0 ∈ a :: t := by
        rw [List.getD_eq_getElem?_getD, List.getElem?_eq_getElem h]
        exact List.getElem_mem h
      have := hall _ hm
      omega
    · rw [List.countP_cons_of_neg (by simpa using ha)]
      have hle := List.countP_le_length (p := fun x => decide (v < x)) (l := t)
      cases i with
      | zero =>
        simp only [List.getD_cons_zero, List.length_cons]
        omega
      | succ i =>
        have := srt_gt (v := v) h1.2 (i := i) (by simpa using h)
        simp only [List.getD_cons_succ, List.length_cons]
        omega
theorem signs_sum : ∀ (L : List Int), (L.countP fun x => decide (x < 0)) + (L.countP fun x => decide (x = 0)) + (L.countP fun x => decide (0 < x)) = L.length
  | [] => rfl
  | a :: t => by
    have := signs_sum t
    simp only [List.countP_cons, List.length_cons, decide_eq_true_eq]
    split <;> split <;> split <;> omega
theorem evenB_iff (L : List Int) : evenB L = true ↔ (L.countP fun x => decide (0 < x)) = (L.countP fun x => decide (x < 0)) := by
  unfold evenB
  rw [beq_iff_eq, List.countP_eq_length_filter, List.countP_eq_length_filter]
theorem srt_zero (L : List Int) {i : Nat} (h : i < L.length) : (srt L).getD i 0 = 0 ↔ (L.countP fun x => decide (x < 0)) ≤ i ∧ i + (L.countP fun x => decide (0 < x)) < L.length := by
  have hl : (srt L).length = L.length := (srt_perm L).length_eq
  have h1 := srt_lt (v := 0) (srt_le L) (i := i) (by omega)
  have h2 := srt_gt (v := 0) (srt_le L) (i := i) (by omega)
  rw [(srt_perm L).countP_eq] at h1 h2
  omega
theorem medOk_of {L : List Int} (hodd : L.length % 2 = 1) (hz : (L.countP fun x => decide (x = 0)) = 1) : MedOk L := by
  unfold MedOk
  have h1 := signs_sum L
  have h2 := srt_zero L (i := L.length / 2) (by omega)
  have h3 := evenB_iff L
  rw [Bool.eq_iff_iff, beq_iff_eq, h2, h3]
  omega
theorem lowOk_of {L : List Int} (hev : L.length % 2 = 0) (hz : (L.countP fun x => decide (x = 0)) = 2) : LowOk L := by
  unfold LowOk
  have h0 := List.countP_le_length (p := fun x => decide (x = 0)) (l := L)
  have h1 := signs_sum L
  have h2 := srt_zero L (i := L.length / 2) (by omega)
  have h4 := srt_zero L (i := L.length / 2 - 1) (by omega)
  have h3 := evenB_iff L
  rw [h2, h3, h4]
  omega
end
section
/- plain law 2: the points lie in general position -/
def pts (xs : List Int) : List (Int × Int) := xs.map fun x => (x, x * x % 1009)
structure GP (P : List (Int × Int)) : Prop where
  nodup : P.Nodup
  xne : ∀ p ∈ P, ∀ q ∈ P, p ≠ q → p.1 ≠ q.1
  gen : ∀ a ∈ P, ∀ b ∈ P, ∀ q ∈ P, a ≠ b → q ≠ a → q ≠ b → side a b q ≠ 0
  bd : ∀ p ∈ P, 0 ≤ p.1 ∧ p.1 < 1009 ∧ 0 ≤ p.2 ∧ p.2 < 1009
theorem gcd_1009 : ∀ u : Fin 1009, u.1 ≠ 0 → Nat.gcd 1009 u.1 = 1 := by decide +kernel
theorem cop {d : Int} (h : d ≠ 0) (h1 : d.natAbs < 1009) : Nat.Coprime 1009 d.natAbs := gcd_1009 ⟨d.natAbs, h1⟩ (by show d.natAbs ≠ 0; omega)
theorem not_dvd {a b c : Int} (ha : a ≠ 0) (ha1 : a.natAbs < 1009) (hb : b ≠ 0) (hb1 : b.natAbs < 1009) (hc : c ≠ 0) (hc1 : c.natAbs < 1009) : ¬ (1009 : Int) ∣ a * b * c := by
  intro h
  have h' : 1009 ∣ (a * b * c).natAbs := by
    have := Int.natAbs_dvd_natAbs.mpr h
    simpa using this
  rw [Int.natAbs_mul, Int.natAbs_mul] at h'
  have h1 := Nat.Coprime.dvd_of_dvd_mul_right (cop hc hc1) h'
  have h2 := Nat.Coprime.dvd_of_dvd_mul_right (cop hb hb1) h1
  have := Nat.le_of_dvd (by omega) h2
  omega
theorem side_mod (a b q : Int) : ∃ z, side (a, a * a % 1009) (b, b * b % 1009) (q, q * q % 1009) = (b - a) * (q - a) * (q - b) + 1009 * z := by
  have h (x : Int) : x * x % 1009 = x * x - 1009 * (x * x / 1009) := by
    have := Int.emod_add_mul_ediv (x * x) 1009
    omega
  refine ⟨(b - a) * (a * a / 1009 - q * q / 1009) - (a * a / 1009 - b * b / 1009) * (q - a), ?_⟩
  unfold side
  dsimp only
  rw [h a, h b, h q]
  generalize a * a / 1009 = u
  generalize b * b / 1009 = v
  generalize q * q / 1009 = w
  grind
theorem gp_pts {xs : List Int} (hnd : xs.Nodup) (hb : ∀ x ∈ xs, 0 ≤ x ∧ x < 1009) : GP (pts xs) where
  nodup := by
    unfold pts
    rw [List.nodup_iff_pairwise_ne, List.pairwise_map]
    refine List.Pairwise.imp ?_ (List.nodup_iff_pairwise_ne.mp hnd)
    intro a b hab e
    exact hab (congrArg Prod.fst e)
  xne := by
    intro p hp q hq hne e
    obtain ⟨x, _, rfl⟩ := List.mem_map.mp hp
    obtain ⟨y, _, rfl⟩ := List.mem_map.mp hq
    dsimp only at e
    subst e
    exact hne rfl
  gen := by
    intro a ha b hb' q hq hab hqa hqb h0
    obtain ⟨x, hx, rfl⟩ := List.mem_map.mp ha
    obtain ⟨y, hy, rfl⟩ := List.mem_map.mp hb'
    obtain ⟨z, hz, rfl⟩ := List.mem_map.mp hq
    have hxb := hb x hx
    have hyb := hb y hy
    have hzb := hb z hz
    have h1 : y ≠ x := by rintro rfl; exact hab rfl
    have h2 : z ≠ x := by rintro rfl; exact hqa rfl
    have h3 : z ≠ y := by rintro rfl; exact hqb rfl
    obtain ⟨w, hw⟩ := side_mod x y z
    rw [h0] at hw
    refine not_dvd (a := y - x) (b := z - x) (c := z - y) (by omega) (by omega) (by omega) (by omega) (by omega) (by omega) ⟨-w, ?_⟩
    rw [Int.mul_neg]
    omega
  bd := by
    intro p hp
    obtain ⟨x, hx, rfl⟩ := List.mem_map.mp hp
    have := hb x hx
    exact ⟨this.1, this.2, Int.emod_nonneg _ (by decide), Int.emod_lt_of_pos _ (by decide)⟩
end
section
/- plain law 3: the lines through one point -/
theorem common : ∀ n : Nat, ∃ M : Nat, 0 < M ∧ ∀ d, 0 < d → d ≤ n → d ∣ M
  | 0 => ⟨1, Nat.one_pos, fun d h h' => by omega⟩
  | n + 1 => by
    obtain ⟨M, hM, h⟩ := common n
    refine ⟨(n + 1) * M, Nat.mul_pos (Nat.succ_pos n) hM, fun d h0 h1 => ?_⟩
    by_cases e : d = n + 1
    · exact e ▸ Nat.dvd_mul_right _ _
    · exact Nat.dvd_trans (h d h0 (by omega)) (Nat.dvd_mul_left _ _)
theorem scale : ∃ K : Int, 0 < K ∧ ∀ d : Int, d ≠ 0 → d.natAbs < 1009 → d ∣ K := by
  obtain ⟨M, hM, h⟩ := common 1008
  refine ⟨(M : Nat), Int.ofNat_lt.mpr hM, fun d h0 h1 => ?_⟩
  exact Int.natAbs_dvd_natAbs.mp (h d.natAbs (by omega) (by omega))
theorem perm_sum {l l' : List Int} (h : l.Perm l') : l.sum = l'.sum := by
  induction h with
  | nil => rfl
  | cons x _ ih => simp only [List.sum_cons, ih]
  | swap x y l => simp only [List.sum_cons]; omega
  | trans _ _ h1 h2 => exact h1.trans h2
theorem sign_sum : ∀ L : List Int, (L.map Int.sign).sum = ((L.countP fun x => decide (0 < x) : Nat) : Int) - ((L.countP fun x => decide (x < 0) : Nat) : Int)
  | [] => rfl
  | a :: t => by
    have := sign_sum t
    simp only [List.map_cons, List.sum_cons, List.countP_cons, decide_eq_true_eq]
    rcases Int.lt_trichotomy a 0 with h | h | h
    · rw [Int.sign_eq_neg_one_of_neg h, if_neg (by omega), if_pos h]; omega
    · subst h; rw [Int.sign_zero, if_neg (by omega)]; omega
    · rw [Int.sign_eq_one_of_pos h, if_pos h, if_neg (by omega)]; omega
theorem evenB_sign (L : List Int) : evenB L = true ↔ (L.map Int.sign).sum = 0 := by
  rw [evenB_iff, sign_sum]
  omega
/-- q, s : a sign and a slope -/
def wgt (q s : Int × Int) : Int := s.1 * (s.2 - q.2).sign
def vsum (l : List (Int × Int)) (q : Int × Int) : Int := (l.map (wgt q)).sum
theorem vs_lt {q : Int × Int} : ∀ {l : List (Int × Int)}, (∀ s ∈ l, s.2 < q.2) → (l.map (wgt q)).sum = -(l.map (·.1)).sum
  | [], _ => rfl
  | s :: l, h => by
    have h1 := h s List.mem_cons_self
    have := vs_lt (q := q) (l := l) fun s hs => h s (List.mem_cons_of_mem _ hs)
    simp only [List.map_cons, List.sum_cons, this]
    unfold wgt
    rw [Int.sign_eq_neg_one_of_neg (by omega)]
    omega
theorem vs_gt {q : Int × Int} : ∀ {l : List (Int × Int)}, (∀ s ∈ l, q.2 < s.2) → (l.map (wgt q)).sum = (l.map (·.1)).sum
  | [], _ => rfl
  | s :: l, h => by
    have h1 := h s List.mem_cons_self
    have := vs_gt (q := q) (l := l) fun s hs => h s (List.mem_cons_of_mem _ hs)
    simp only [List.map_cons, List.sum_cons, this]
    unfold wgt
    rw [Int.sign_eq_one_of_pos (by omega)]
    omega
theorem walk_parity : ∀ (post pre : List (Int × Int)), (pre ++ post).Pairwise (fun a b => a.2 < b.2) → (∀ p ∈ pre ++ post, p.1 = 1 ∨ p.1 = -1) → ((pre ++ post).map (·.1)).sum % 2 = 1 →
    ((post.countP fun q => decide (vsum (pre ++ post) q = 0)) + (if 2 * (pre.map (·.1)).sum < ((pre ++ post).map (·.1)).sum then 1 else 0) + (if ((pre ++ post).map (·.1)).sum < 0 then 1 else 0)) % 2 = 0
  | [], pre, _, _, hT => by
    simp only [List.append_nil, List.countP_nil] at hT ⊢
    split <;> split <;> omega
  | q :: post, pre, hp, hs, hT => by
    have ih := walk_parity post (pre ++ [q]) (by simpa using hp) (by simpa using hs) (by simpa using hT)
    have e : pre ++ [q] ++ post = pre ++ q :: post := by simp
    rw [e] at ih
    have hq := hs q (by simp)
    have hsum : ((pre ++ q :: post).map (·.1)).sum = (pre.map (·.1)).sum + q.1 + (post.map (·.1)).sum := by
      simp only [List.map_append, List.sum_append, List.map_cons, List.sum_cons]
      omega
    have hpre : ((pre ++ [q]).map (·.1)).sum = (pre.map (·.1)).sum + q.1 := by simp
    have hpw := List.pairwise_append.mp hp
    have hpw2 := List.pairwise_cons.mp hpw.2.1
    have hv : vsum (pre ++ q :: post) q = (post.map (·.1)).sum - (pre.map (·.1)).sum := by
      unfold vsum
      rw [List.map_append, List.sum_append, List.map_cons, List.sum_cons, vs_lt fun s hs => hpw.2.2 s hs q List.mem_cons_self, vs_gt fun s hs => hpw2.1 s hs]
      have : wgt q q = 0 := by simp [wgt]
      omega
    rw [List.countP_cons]
    simp only [decide_eq_true_eq, hv]
    rw [hpre] at ih
    rw [hsum] at hT ih ⊢
    generalize (pre.map (·.1)).sum = A at *
    generalize (post.map (·.1)).sum = B at *
    generalize List.countP _ post = c at *
    rcases hq with hq | hq <;> rw [hq] at ih hT ⊢ <;> (repeat' split at ih) <;> (repeat' split) <;> omega
theorem signs_odd : ∀ {l : List (Int × Int)}, (∀ p ∈ l, p.1 = 1 ∨ p.1 = -1) → (l.map (·.1)).sum % 2 = (l.length : Int) % 2
  | [], _ => rfl
  | p :: l, h => by
    have := signs_odd (l := l) fun q hq => h q (List.mem_cons_of_mem _ hq)
    have hp := h p List.mem_cons_self
    simp only [List.map_cons, List.sum_cons, List.length_cons]
    omega
theorem around_odd {l : List (Int × Int)} (hs : ∀ p ∈ l, p.1 = 1 ∨ p.1 = -1) (hne : l.Pairwise fun a b => a.2 ≠ b.2) (hodd : l.length % 2 = 1) : (l.countP fun q => decide (vsum l q = 0)) % 2 = 1 := by
  have hperm : (l.mergeSort fun a b => decide (a.2 ≤ b.2)).Perm l := List.mergeSort_perm _ _
  have hle := List.pairwise_mergeSort (le := fun a b : Int × Int => decide (a.2 ≤ b.2)) (fun a b c => by simp only [decide_eq_true_eq]; omega) (fun a b => by simp only [Bool.or_eq_true, decide_eq_true_eq]; omega) l
  generalize (l.mergeSort fun a b => decide (a.2 ≤ b.2)) = u at *
  have hne' : u.Pairwise fun a b => a.2 ≠ b.2 := hperm.symm.pairwise hne fun h => Ne.symm h
  have hlt : u.Pairwise fun a b => a.2 < b.2 := (hle.and hne').imp fun h => by
    have := h.1
    have := h.2
    simp only [decide_eq_true_eq] at *
    omega
  have hs' : ∀ p ∈ u, p.1 = 1 ∨ p.1 = -1 := fun p hp => hs p (hperm.subset hp)
  have hodd' : (u.map (·.1)).sum % 2 = 1 := by
    rw [signs_odd hs', hperm.length_eq]
    omega
  have h := walk_parity u [] (by simpa using hlt) (by simpa using hs') (by simpa using hodd')
  simp only [List.nil_append, List.map_nil, List.sum_nil] at h
  have hv : ∀ q, vsum u q = vsum l q := fun q => perm_sum (hperm.map _)
  simp only [hv] at h
  rw [hperm.countP_eq] at h
  split at h <;> split at h <;> omega
end
section
/- plain law 4: through each point an odd number of halving lines -/
theorem side_slope {K dq ds yq ys kq ks : Int} (h1 : K = dq * kq) (h2 : K = ds * ks) : K * (dq * ys - yq * ds) = dq * ds * (ys * ks - yq * kq) := by
  have e1 : K * (dq * ys - yq * ds) = dq * ys * K - ds * yq * K := by grind
  rw [e1]
  have e2 : dq * ys * K = dq * ys * (ds * ks) := by rw [← h2]
  have e3 : ds * yq * K = ds * yq * (dq * kq) := by rw [← h1]
  rw [e2, e3]
  grind
theorem point_odd {a : Int × Int} {O : List (Int × Int)} (hx : ∀ s ∈ O, s.1 - a.1 ≠ 0 ∧ (s.1 - a.1).natAbs < 1009) (hg : O.Pairwise fun q s => side a q s ≠ 0) (hodd : O.length % 2 = 1) :
    (O.countP fun q => evenB (O.map (side a q))) % 2 = 1 := by
  obtain ⟨K, hK, hdv⟩ := scale
  let f : Int × Int → Int × Int := fun s => ((s.1 - a.1).sign, (s.2 - a.2) * (K / (s.1 - a.1)))
  have hk : ∀ s ∈ O, K = (s.1 - a.1) * (K / (s.1 - a.1)) := fun s hs => (Int.mul_ediv_cancel' (hdv _ (hx s hs).1 (hx s hs).2)).symm
  have key : ∀ q ∈ O, ∀ s ∈ O, K * side a q s = (q.1 - a.1) * (s.1 - a.1) * ((f s).2 - (f q).2) := fun q hq s hs => by
    have := side_slope (ys := s.2 - a.2) (yq := q.2 - a.2) (hk q hq) (hk s hs)
    unfold side
    exact this
  have hsg : ∀ q ∈ O, ∀ s ∈ O, (side a q s).sign = (q.1 - a.1).sign * wgt (f q) (f s) := fun q hq s hs => by
    have h := congrArg Int.sign (key q hq s hs)
    rw [Int.sign_mul, Int.sign_mul, Int.sign_mul, Int.sign_eq_one_of_pos hK, Int.one_mul] at h
    rw [h, Int.mul_assoc]
    rfl
  have hone : ∀ s ∈ O, (f s).1 = 1 ∨ (f s).1 = -1 := fun s hs => by
    have := (hx s hs).1
    rcases Int.lt_trichotomy (s.1 - a.1) 0 with h | h | h
    · exact .inr (Int.sign_eq_neg_one_of_neg h)
    · exact absurd h this
    · exact .inl (Int.sign_eq_one_of_pos h)
  have hne : (O.map f).Pairwise fun p q => p.2 ≠ q.2 := by
    rw [List.pairwise_map]
    refine List.Pairwise.imp_of_mem ?_ hg
    intro q s hq hs hside e
    have h := key q hq s hs
    have : (f s).2 - (f q).2 = 0 := by omega
    rw [this, Int.mul_zero] at h
    rcases Int.mul_eq_zero.mp h with h | h
    · omega
    · exact hside h
  have hfin := around_odd (l := O.map f) (fun p hp => by
    obtain ⟨s, hs, rfl⟩ := List.mem_map.mp hp
    exact hone s hs) hne (by rw [List.length_map]; exact hodd)
  rw [List.countP_map] at hfin
  have hc : (O.countP fun q => evenB (O.map (side a q))) = O.countP ((fun q => decide (vsum (O.map f) q = 0)) ∘ f) := by
    refine List.countP_congr fun q hq => ?_
    simp only [Function.comp_def, decide_eq_true_eq]
    rw [evenB_sign]
    have e : ((O.map (side a q)).map Int.sign).sum = (q.1 - a.1).sign * vsum (O.map f) (f q) := by
      unfold vsum
      rw [List.map_map, List.map_map]
      have : ∀ l : List (Int × Int), (∀ s ∈ l, s ∈ O) → (l.map (Int.sign ∘ side a q)).sum = (q.1 - a.1).sign * (l.map (wgt (f q) ∘ f)).sum := by
        intro l
        induction l with
        | nil => intro _; simp
        | cons s l ih =>
          intro hl
          have h1 := hsg q hq s (hl s List.mem_cons_self)
          have h2 := ih fun s hs => hl s (List.mem_cons_of_mem _ hs)
          simp only [List.map_cons, List.sum_cons, Function.comp_def] at *
          rw [h1, h2, Int.mul_add]
      exact this O fun s hs => hs
    rw [e]
    rcases hone q hq with h | h
    · have h' : (q.1 - a.1).sign = 1 := h
      rw [h', Int.one_mul]
    · have h' : (q.1 - a.1).sign = -1 := h
      rw [h']
      omega
  rw [hc]
  exact hfin
theorem side_swap (a b q : Int × Int) : side b a q = -side a b q := by
  unfold side
  grind
theorem evenB_neg (L : List Int) : evenB (L.map fun x => -x) = evenB L := by
  rw [Bool.eq_iff_iff, evenB_iff, evenB_iff, List.countP_map, List.countP_map]
  have e1 : (L.countP ((fun x => decide (0 < x)) ∘ fun x => -x)) = L.countP fun x => decide (x < 0) := List.countP_congr fun x _ => by simp
  have e2 : (L.countP ((fun x => decide (x < 0)) ∘ fun x => -x)) = L.countP fun x => decide (0 < x) := List.countP_congr fun x _ => by simp
  rw [e1, e2]
  omega
theorem evenB_swap (P : List (Int × Int)) (a b : Int × Int) : evenB (P.map (side b a)) = evenB (P.map (side a b)) := by
  rw [← evenB_neg (P.map (side a b)), List.map_map]
  congr 1
  exact List.map_congr_left fun q _ => side_swap a b q
theorem evenB_perm {L L' : List Int} (h : L.Perm L') : evenB L = evenB L' := by
  rw [Bool.eq_iff_iff, evenB_iff, evenB_iff, h.countP_eq, h.countP_eq]
theorem evenB_zero (L : List Int) : evenB (0 :: L) = evenB L := by
  rw [Bool.eq_iff_iff, evenB_iff, evenB_iff]
  simp
theorem side_self (a b : Int × Int) : side a b a = 0 := by
  unfold side
  grind
theorem bump_at {ls : List Int} {i j k : Nat} {b : Bool} (hk : k < ls.length) : (bump ls i j b).getD k 0 = ls.getD k 0 + (if b = true ∧ i = k then 1 else 0) + (if b = true ∧ j = k then 1 else 0) := by
  unfold bump
  cases b with
  | false => simp
  | true =>
    simp only [if_true, true_and, List.getD_eq_getElem?_getD, List.getElem?_modify, List.getElem?_eq_getElem hk]
    by_cases h1 : i = k <;> by_cases h2 : j = k <;> simp [h1, h2]
theorem row_at {P : List (Int × Int)} {i : Nat} {ls : List Int} {k : Nat} (hk : k < ls.length) : ∀ n : Nat,
    (rowF P i ls n).getD k 0 = ls.getD k 0 + (if i = k then (((List.range' (i + 1) n).countP fun j => pairB P i j : Nat) : Int) else if i < k ∧ k < i + 1 + n ∧ pairB P i k = true then 1 else 0)
  | 0 => by
    unfold rowF
    simp only [List.range'_zero, List.foldl_nil, List.countP_nil]
    split
    · omega
    · rw [if_neg (by omega)]; omega
  | n + 1 => by
    rw [rowF_succ, bump_at (by rw [rowF_length]; exact hk), row_at hk n, List.range'_1_concat, List.countP_append, List.countP_singleton]
    by_cases h1 : i = k
    · subst h1
      simp only [if_true, and_true]
      have : ¬ (i + 1 + n = i) := by omega
      simp only [this, and_false, if_false]
      split <;> omega
    · simp only [h1, and_false, if_false]
      by_cases h2 : i + 1 + n = k
      · subst h2
        simp only [and_true]
        by_cases h3 : pairB P i (i + 1 + n) = true
        · rw [if_neg (by omega), if_pos h3, if_pos ⟨by omega, by omega, h3⟩]
          omega
        · rw [if_neg (by omega), if_neg h3, if_neg (fun h => h3 h.2.2)]
          omega
      · simp only [h2, and_false, if_false]
        by_cases h3 : i < k ∧ k < i + 1 + n ∧ pairB P i k = true
        · rw [if_pos h3, if_pos ⟨h3.1, by omega, h3.2.2⟩]
          omega
        · rw [if_neg h3, if_neg (fun h => h3 ⟨h.1, by omega, h.2.2⟩)]
          omega
theorem col_at {P : List (Int × Int)} {n k : Nat} (hk : k < n) : ∀ i : Nat, i ≤ n →
    (colF P n i).getD k 0 = (((List.range (min i k)).countP fun i' => pairB P i' k : Nat) : Int) + (if k < i then (((List.range' (k + 1) (n - k - 1)).countP fun j => pairB P k j : Nat) : Int) else 0)
  | 0, _ => by
    unfold colF
    simp [List.getD_eq_getElem?_getD, hk]
  | i + 1, hi => by
    rw [colF_succ, row_at (by rw [colF_length]; exact hk), col_at hk i (by omega)]
    rcases Nat.lt_trichotomy i k with h | h | h
    · have c1 : ¬ k < i := by omega
      have c2 : ¬ i = k := by omega
      have c3 : ¬ k < i + 1 := by omega
      rw [if_neg c1, if_neg c2, if_neg c3, Nat.min_eq_left (by omega), Nat.min_eq_left (by omega), List.range_succ, List.countP_append, List.countP_singleton]
      have c4 : k < i + 1 + (n - i - 1) := by omega
      by_cases h3 : pairB P i k = true
      · rw [if_pos ⟨h, c4, h3⟩, if_pos h3]
        omega
      · rw [if_neg (fun q => h3 q.2.2), if_neg h3]
        omega
    · subst h
      have c1 : ¬ i < i := by omega
      have c3 : i < i + 1 := by omega
      rw [if_neg c1, if_pos rfl, if_pos c3, Nat.min_eq_left (by omega), Nat.min_eq_right (by omega)]
      omega
    · have c1 : k < i := by omega
      have c2 : ¬ i = k := by omega
      have c3 : k < i + 1 := by omega
      have c4 : ¬ (i < k ∧ k < i + 1 + (n - i - 1) ∧ pairB P i k = true) := fun q => by omega
      rw [if_pos c1, if_neg c2, if_neg c4, if_pos c3, Nat.min_eq_right (by omega), Nat.min_eq_right (by omega)]
      omega
end
section
/- plain law 5: the lines of one cloud; zeros among the sides -/
theorem cnt_one {α : Type} [DecidableEq α] {a : α} : ∀ {l : List α}, l.Nodup → a ∈ l → (l.countP fun q => decide (q = a)) = 1
  | [], _, h => by simp at h
  | b :: l, hn, h => by
    have h1 := List.nodup_cons.mp hn
    by_cases e : b = a
    · subst e
      have h0 : (l.countP fun q => decide (q = b)) = 0 := List.countP_eq_zero.mpr fun x hx => by
        simp only [decide_eq_true_eq]
        rintro rfl
        exact h1.1 hx
      rw [List.countP_cons_of_pos (by simp), h0]
    · rw [List.countP_cons_of_neg (by simpa using e)]
      exact cnt_one h1.2 ((List.mem_cons.mp h).resolve_left fun q => e q.symm)
theorem cnt_or {α : Type} {p q : α → Prop} [DecidablePred p] [DecidablePred q] : ∀ {l : List α}, (∀ x ∈ l, ¬ (p x ∧ q x)) → (l.countP fun x => decide (p x ∨ q x)) = (l.countP fun x => decide (p x)) + (l.countP fun x => decide (q x))
  | [], _ => rfl
  | x :: l, h => by
    have h1 := h x List.mem_cons_self
    have := cnt_or (p := p) (q := q) (l := l) fun y hy => h y (List.mem_cons_of_mem _ hy)
    simp only [List.countP_cons, decide_eq_true_eq, this]
    by_cases hp : p x <;> by_cases hq : q x <;> simp [hp, hq] at * <;> omega
theorem side_other (a b : Int × Int) : side a b b = 0 := by
  unfold side
  grind
theorem zeros_two {P : List (Int × Int)} (g : GP P) {a b : Int × Int} (ha : a ∈ P) (hb : b ∈ P) (hab : a ≠ b) : ((P.map (side a b)).countP fun x => decide (x = 0)) = 2 := by
  rw [List.countP_map]
  have e : P.countP ((fun x => decide (x = 0)) ∘ side a b) = P.countP fun q => decide (q = a ∨ q = b) := List.countP_congr fun q hq => by
    simp only [Function.comp_def, decide_eq_true_eq]
    constructor
    · intro h
      by_cases h1 : q = a
      · exact .inl h1
      · by_cases h2 : q = b
        · exact .inr h2
        · exact absurd h (g.gen a ha b hb q hq hab h1 h2)
    · rintro (rfl | rfl)
      · exact side_self _ _
      · exact side_other _ _
  rw [e, cnt_or fun x _ h => hab (h.1.symm.trans h.2), cnt_one g.nodup ha, cnt_one g.nodup hb]
theorem zeros_one {P S : List (Int × Int)} (g : GP P) (hS : ∀ q ∈ S, q ∈ P) (hn : S.Nodup) {a b c : Int × Int} (ha : a ∈ P) (hb : b ∈ P) (hab : a ≠ b) (hc : c ∈ S) (hz : side a b c = 0) (ho : ∀ q ∈ S, q ≠ c → q ≠ a ∧ q ≠ b) :
    ((S.map (side a b)).countP fun x => decide (x = 0)) = 1 := by
  rw [List.countP_map]
  have e : S.countP ((fun x => decide (x = 0)) ∘ side a b) = S.countP fun q => decide (q = c) := List.countP_congr fun q hq => by
    simp only [Function.comp_def, decide_eq_true_eq]
    constructor
    · intro h
      by_cases h1 : q = c
      · exact h1
      · exact absurd h (g.gen a ha b hb q (hS q hq) hab (ho q hq h1).1 (ho q hq h1).2)
    · rintro rfl
      exact hz
  rw [e, cnt_one hn hc]
theorem cnt_range {α : Type} {P : List α} {d : α} {g : α → Bool} {s : Nat} : ∀ m : Nat, s + m ≤ P.length → ((List.range' s m).countP fun j => g (P.getD j d)) = ((P.drop s).take m).countP g
  | 0, _ => by simp
  | m + 1, h => by
    rw [List.range'_1_concat, List.countP_append, cnt_range m (by omega), List.take_add_one, List.countP_append]
    have hx : P[s + m]? = some P[s + m] := List.getElem?_eq_getElem (by omega)
    have : (P.drop s)[m]? = some P[s + m] := by rw [List.getElem?_drop, hx]
    rw [this, List.countP_singleton, List.getD_eq_getElem?_getD, hx]
    simp [List.countP_singleton]
theorem getD_mem {α : Type} {P : List α} {d : α} {j : Nat} (h : j < P.length) : P.getD j d ∈ P := by
  rw [List.getD_eq_getElem?_getD, List.getElem?_eq_getElem h]
  exact List.getElem_mem h
theorem lines_odd {P : List (Int × Int)} (g : GP P) (hev : P.length % 2 = 0) : ∀ v ∈ linesF P, v % 2 = 1 := by
  intro v hv
  obtain ⟨k, hk, rfl⟩ := List.mem_iff_getElem.mp hv
  have hlen : (linesF P).length = P.length := colF_length ..
  have hkn : k < P.length := by omega
  have hval : (linesF P)[k] = (linesF P).getD k 0 := by
    rw [List.getD_eq_getElem?_getD, List.getElem?_eq_getElem hk]
    rfl
  have hat : (linesF P).getD k 0 = _ := col_at hkn P.length (Nat.le_refl _)
  rw [hval, hat, Nat.min_eq_right (by omega), if_pos hkn]
  have hP : P = P.take k ++ P[k] :: P.drop (k + 1) := by
    rw [← List.drop_eq_getElem_cons hkn, List.take_append_drop]
  have hperm : P.Perm (P[k] :: (P.take k ++ P.drop (k + 1))) := by
    have := List.perm_middle (a := P[k]) (l₁ := P.take k) (l₂ := P.drop (k + 1))
    rw [← hP] at this
    exact this
  generalize hO : P.take k ++ P.drop (k + 1) = O at hperm
  have ha : P[k] ∈ P := List.getElem_mem hkn
  have hnd := List.nodup_cons.mp (hperm.nodup g.nodup)
  have hOP : ∀ q ∈ O, q ∈ P := fun q hq => hperm.symm.subset (List.mem_cons_of_mem _ hq)
  have hOa : ∀ q ∈ O, q ≠ P[k] := fun q hq e => hnd.1 (e ▸ hq)
  have hpair : ∀ j, pairB P j k = evenB (O.map (side P[k] (P.getD j (0, 0)))) := fun j => by
    unfold pairB
    have : P.getD k (0, 0) = P[k] := by
      rw [List.getD_eq_getElem?_getD, List.getElem?_eq_getElem hkn]
      rfl
    rw [this, evenB_swap, evenB_perm (hperm.map _), List.map_cons, side_self, evenB_zero]
  have hpair' : ∀ j, pairB P k j = evenB (O.map (side P[k] (P.getD j (0, 0)))) := fun j => by
    rw [← hpair]
    unfold pairB
    rw [evenB_swap]
  simp only [hpair, hpair']
  rw [List.range_eq_range', cnt_range (g := fun q => evenB (O.map (side P[k] q))) k (by omega), cnt_range (g := fun q => evenB (O.map (side P[k] q))) (P.length - k - 1) (by omega), List.drop_zero, List.take_of_length_le (l := P.drop (k + 1)) (by rw [List.length_drop]; omega)]
  have hfin := point_odd (a := P[k]) (O := O) (fun s hs => ?_) ?_ ?_
  · have hsplit : (O.countP fun q => evenB (O.map (side P[k] q))) = ((P.take k).countP fun q => evenB (O.map (side P[k] q))) + ((P.drop (k + 1)).countP fun q => evenB (O.map (side P[k] q))) := by
      rw [← List.countP_append, hO]
    omega
  · have h1 := g.xne s (hOP s hs) _ ha (hOa s hs)
    have h2 := g.bd s (hOP s hs)
    have h3 := g.bd _ ha
    omega
  · refine List.Pairwise.imp_of_mem ?_ (List.nodup_iff_pairwise_ne.mp hnd.2)
    intro q s hq hs hqs
    exact g.gen _ ha q (hOP q hq) s (hOP s hs) (fun e => hOa q hq e.symm) (hOa s hs) (fun e => hqs e.symm)
  · have := hperm.length_eq
    simp only [List.length_cons] at this
    omega
theorem law_lines {xs : List Int} (hnd : xs.Nodup) (hb : ∀ x ∈ xs, 0 ≤ x ∧ x < 1009) (hev : xs.length % 2 = 0) (h0 : 0 < xs.length) :
    (∀ (i j : Nat) a b, i < j → (pts xs)[i]? = some a → (pts xs)[j]? = some b → LowOk ((pts xs).map (side a b))) ∧ ∀ v ∈ linesF (pts xs), v % 2 = 1 := by
  have g := gp_pts hnd hb
  have hl : (pts xs).length = xs.length := List.length_map _
  refine ⟨fun i j a b hij hi hj => ?_, lines_odd g (by omega)⟩
  refine lowOk_of (by rw [List.length_map]; omega) (zeros_two g (List.mem_of_getElem? hi) (List.mem_of_getElem? hj) ?_)
  rintro rfl
  have h1 := (List.getElem?_eq_some_iff.mp hi).1
  have h2 := (List.getElem?_eq_some_iff.mp hj).1
  have e1 := (List.getElem?_eq_some_iff.mp hi).2
  have e2 := (List.getElem?_eq_some_iff.mp hj).2
  have := (List.getElem_inj (h₀ := h1) (h₁ := h2) g.nodup).mp (e1.trans e2.symm)
  omega
end
section
/- plain law 6: the ham sandwich -/
def Med (f : Int × Int → Int) (S : List (Int × Int)) (c : Int × Int) : Prop :=
  c ∈ S ∧ 2 * (S.countP fun q => decide (f q < f c)) < S.length ∧ 2 * (S.countP fun q => decide (f c < f q)) < S.length
theorem med_exists (f : Int × Int → Int) {S : List (Int × Int)} (hodd : S.length % 2 = 1) : ∃ c, Med f S c := by
  have hperm := srt_perm (S.map f)
  have hl : (srt (S.map f)).length = S.length := by rw [hperm.length_eq, List.length_map]
  have hi : S.length / 2 < (srt (S.map f)).length := by omega
  have hm : (srt (S.map f)).getD (S.length / 2) 0 ∈ srt (S.map f) := getD_mem hi
  obtain ⟨c, hc, he⟩ := List.mem_map.mp (hperm.subset hm)
  have h1 := srt_lt (v := f c) (srt_le (S.map f)) hi
  have h2 := srt_gt (v := f c) (srt_le (S.map f)) hi
  rw [hperm.countP_eq, List.countP_map, ← he] at h1 h2
  refine ⟨c, hc, ?_, ?_⟩
  · have e : S.countP ((fun x => decide (x < f c)) ∘ f) = S.countP fun q => decide (f q < f c) := rfl
    rw [e] at h1
    omega
  · have e : S.countP ((fun x => decide (f c < x)) ∘ f) = S.countP fun q => decide (f c < f q) := rfl
    rw [e] at h2
    omega
theorem cnt_mono {α : Type} {p q : α → Prop} [DecidablePred p] [DecidablePred q] {l : List α} (h : ∀ x ∈ l, p x → q x) : (l.countP fun x => decide (p x)) ≤ l.countP fun x => decide (q x) :=
  List.countP_mono_left fun x hx hp => by simpa using h x hx (by simpa using hp)
theorem cnt_tri {α : Type} (f : α → Int) (v : Int) : ∀ l : List α, (l.countP fun x => decide (f x < v)) + (l.countP fun x => decide (f x = v)) + (l.countP fun x => decide (v < f x)) = l.length
  | [] => rfl
  | a :: t => by
    have := cnt_tri f v t
    simp only [List.countP_cons, List.length_cons, decide_eq_true_eq]
    split <;> split <;> split <;> omega
theorem med_le {f : Int × Int → Int} {S : List (Int × Int)} {c d : Int × Int} (hc : Med f S c) (hd : Med f S d) : f d ≤ f c := by
  apply Classical.byContradiction
  intro h
  have h1 := cnt_tri f (f c) S
  have h2 : (S.countP fun q => decide (f q < f c ∨ f q = f c)) ≤ S.countP fun q => decide (f q < f d) := cnt_mono fun x _ => by omega
  rw [cnt_or fun x _ => by omega] at h2
  have := hc.2.2
  have := hd.2.1
  omega
theorem med_uniq {f : Int × Int → Int} {S : List (Int × Int)} {c d : Int × Int} (hc : Med f S c) (hd : Med f S d) : f c = f d :=
  Int.le_antisymm (med_le hd hc) (med_le hc hd)
/-- a median whose value no other point has: as many below as above -/
theorem med_mid {f : Int × Int → Int} {S : List (Int × Int)} {c : Int × Int} (hn : S.Nodup) (hodd : S.length % 2 = 1) (hc : c ∈ S) (hu : ∀ q ∈ S, f q = f c → q = c) :
    Med f S c ↔ (S.countP fun q => decide (f q < f c)) = S.countP fun q => decide (f c < f q) := by
  have h1 := cnt_tri f (f c) S
  have h2 : (S.countP fun q => decide (f q = f c)) = 1 := by
    rw [← cnt_one hn hc]
    exact List.countP_congr fun q hq => by
      simp only [decide_eq_true_eq]
      exact ⟨hu q hq, fun e => e ▸ rfl⟩
  constructor
  · rintro ⟨_, h3, h4⟩
    omega
  · intro h
    exact ⟨hc, by omega, by omega⟩
theorem med_of_order {f g : Int × Int → Int} {S : List (Int × Int)} {c : Int × Int} (hc : Med f S c) (h1 : ∀ q ∈ S, g q < g c → f q < f c) (h2 : ∀ q ∈ S, g c < g q → f c < f q) : Med g S c :=
  ⟨hc.1, Nat.lt_of_le_of_lt (Nat.mul_le_mul_left 2 (cnt_mono h1)) hc.2.1, Nat.lt_of_le_of_lt (Nat.mul_le_mul_left 2 (cnt_mono h2)) hc.2.2⟩
theorem med_of_reverse {f g : Int × Int → Int} {S : List (Int × Int)} {c : Int × Int} (hc : Med f S c) (h1 : ∀ q ∈ S, g q < g c → f c < f q) (h2 : ∀ q ∈ S, g c < g q → f q < f c) : Med g S c :=
  ⟨hc.1, Nat.lt_of_le_of_lt (Nat.mul_le_mul_left 2 (cnt_mono h1)) hc.2.2, Nat.lt_of_le_of_lt (Nat.mul_le_mul_left 2 (cnt_mono h2)) hc.2.1⟩

def vf (K k : Int) (q : Int × Int) : Int := K * q.2 - k * q.1
def kf (K t : Int) (q : Int × Int) : Int := 2 * (K * q.2) - t * q.1
def mm (K : Int) (p q : Int × Int) : Int := (p.2 - q.2) * (K / (p.1 - q.1))
structure Sw (P R B : List (Int × Int)) (K : Int) : Prop where
  g : GP P
  hR : ∀ q ∈ R, q ∈ P
  hB : ∀ q ∈ B, q ∈ P
  nR : R.Nodup
  nB : B.Nodup
  dis : ∀ p ∈ R, ∀ q ∈ B, p ≠ q
  oR : R.length % 2 = 1
  oB : B.length % 2 = 1
  pos : 0 < K
  dv : ∀ d : Int, d ≠ 0 → d.natAbs < 1009 → d ∣ K
theorem mul_big (D x : Int) : D * x = 0 ∨ x.natAbs ≤ (D * x).natAbs := by
  by_cases h : D = 0
  · exact .inl (by rw [h, Int.zero_mul])
  · right
    rw [Int.natAbs_mul]
    exact Nat.le_mul_of_pos_left _ (by omega)
section
variable {P R B : List (Int × Int)} {K : Int}
theorem Sw.dx (w : Sw P R B K) {p q : Int × Int} (hp : p ∈ P) (hq : q ∈ P) (h : p ≠ q) : p.1 - q.1 ≠ 0 ∧ (p.1 - q.1).natAbs < 1009 := by
  have h1 := w.g.xne p hp q hq h
  have h2 := w.g.bd p hp
  have h3 := w.g.bd q hq
  omega
theorem Sw.slope (w : Sw P R B K) {p q : Int × Int} (hp : p ∈ P) (hq : q ∈ P) (h : p ≠ q) : K * (p.2 - q.2) = mm K p q * (p.1 - q.1) := by
  have hd := w.dx hp hq h
  have e : K = (p.1 - q.1) * (K / (p.1 - q.1)) := (Int.mul_ediv_cancel' (w.dv _ hd.1 hd.2)).symm
  unfold mm
  generalize K / (p.1 - q.1) = z at *
  rw [e]
  grind
theorem Sw.vdiff (w : Sw P R B K) {p q : Int × Int} (hp : p ∈ P) (hq : q ∈ P) (h : p ≠ q) (k : Int) : vf K k p - vf K k q = (mm K p q - k) * (p.1 - q.1) := by
  have := w.slope hp hq h
  unfold vf
  rw [Int.sub_mul, ← this]
  grind
theorem Sw.kdiff (w : Sw P R B K) {p q : Int × Int} (hp : p ∈ P) (hq : q ∈ P) (h : p ≠ q) (t : Int) : kf K t p - kf K t q = (2 * mm K p q - t) * (p.1 - q.1) := by
  have := w.slope hp hq h
  unfold kf
  rw [Int.sub_mul, Int.mul_assoc, ← this]
  grind
theorem kf_lo (K k : Int) (q : Int × Int) : kf K (2 * k - 1) q = 2 * vf K k q + q.1 := by
  unfold kf vf
  grind
theorem kf_hi (K k : Int) (q : Int × Int) : kf K (2 * k + 1) q = 2 * vf K k q - q.1 := by
  unfold kf vf
  grind
theorem Sw.lo (w : Sw P R B K) {p q : Int × Int} (hp : p ∈ P) (hq : q ∈ P) (h : p ≠ q) (k : Int) : kf K (2 * k - 1) p < kf K (2 * k - 1) q ↔ vf K k p < vf K k q ∨ (vf K k p = vf K k q ∧ p.1 < q.1) := by
  have h1 := w.vdiff hp hq h k
  have h2 := w.dx hp hq h
  have h3 := mul_big (mm K p q - k) (p.1 - q.1)
  rw [← h1] at h3
  rw [kf_lo, kf_lo]
  omega
theorem Sw.hi (w : Sw P R B K) {p q : Int × Int} (hp : p ∈ P) (hq : q ∈ P) (h : p ≠ q) (k : Int) : kf K (2 * k + 1) p < kf K (2 * k + 1) q ↔ vf K k p < vf K k q ∨ (vf K k p = vf K k q ∧ q.1 < p.1) := by
  have h1 := w.vdiff hp hq h k
  have h2 := w.dx hp hq h
  have h3 := mul_big (mm K p q - k) (p.1 - q.1)
  rw [← h1] at h3
  rw [kf_hi, kf_hi]
  omega
theorem Sw.same (w : Sw P R B K) {p q : Int × Int} (hp : p ∈ P) (hq : q ∈ P) (h : p ≠ q) (k : Int) : mm K p q = k ↔ vf K k p = vf K k q := by
  have h1 := w.vdiff hp hq h k
  have h2 := (w.dx hp hq h).1
  constructor
  · intro e
    rw [e, Int.sub_self, Int.zero_mul] at h1
    omega
  · intro e
    have : (mm K p q - k) * (p.1 - q.1) = 0 := by omega
    rcases Int.mul_eq_zero.mp this with h | h
    · omega
    · exact absurd h h2
/-- K times a side, where a and b lie on one line of slope k -/
theorem side_vf {K k : Int} {a b q : Int × Int} (h : vf K k a = vf K k b) : K * side a b q = (b.1 - a.1) * (vf K k q - vf K k a) := by
  unfold vf at h
  unfold side vf
  have e : K * b.2 - K * a.2 = k * b.1 - k * a.1 := by omega
  have e2 : K * ((b.1 - a.1) * (q.2 - a.2) - (b.2 - a.2) * (q.1 - a.1)) = (b.1 - a.1) * (K * q.2 - K * a.2) - (K * b.2 - K * a.2) * (q.1 - a.1) := by grind
  rw [e2, e]
  grind
theorem Sw.three (w : Sw P R B K) {a b q : Int × Int} (ha : a ∈ P) (hb : b ∈ P) (hq : q ∈ P) (hab : a ≠ b) {k : Int} (h : vf K k a = vf K k b) (h' : vf K k q = vf K k a) : q = a ∨ q = b := by
  apply Classical.byContradiction
  intro hno
  have h1 : q ≠ a := fun e => hno (.inl e)
  have h2 : q ≠ b := fun e => hno (.inr e)
  have hs := side_vf (q := q) h
  rw [h', Int.sub_self, Int.mul_zero] at hs
  rcases Int.mul_eq_zero.mp hs with e | e
  · have := w.pos
    omega
  · exact w.g.gen a ha b hb q hq hab h1 h2 e
end
end
section
/- plain law 7: the sweep -/
section
variable {P R B : List (Int × Int)} {K : Int}
theorem sign_pos {x y z K : Int} (hK : 0 < K) (h : K * x = y * z) (hy : 0 < y) : (0 < x ↔ 0 < z) ∧ (x < 0 ↔ z < 0) := by
  have e := congrArg Int.sign h
  rw [Int.sign_mul, Int.sign_mul, Int.sign_eq_one_of_pos hK, Int.sign_eq_one_of_pos hy, Int.one_mul, Int.one_mul] at e
  exact ⟨by rw [← Int.sign_eq_one_iff_pos, e, Int.sign_eq_one_iff_pos], by rw [← Int.sign_eq_neg_one_iff_neg, e, Int.sign_eq_neg_one_iff_neg]⟩
theorem sign_neg {x y z K : Int} (hK : 0 < K) (h : K * x = y * z) (hy : y < 0) : (0 < x ↔ z < 0) ∧ (x < 0 ↔ 0 < z) := by
  have h' : K * x = -y * -z := by rw [h]; grind
  have := sign_pos hK h' (by omega)
  omega
/-- the sides of a cloud are even just where the point of it on the line is its median -/
theorem Sw.evenMed (w : Sw P R B K) {S : List (Int × Int)} {a b c : Int × Int} {k : Int} (hS : ∀ q ∈ S, q ∈ P) (hn : S.Nodup) (hodd : S.length % 2 = 1) (ha : a ∈ P) (hb : b ∈ P) (hab : a ≠ b) (hv : vf K k a = vf K k b)
    (hc : c ∈ S) (hca : vf K k c = vf K k a) (ho : ∀ q ∈ S, q = a ∨ q = b → q = c) : evenB (S.map (side a b)) = true ↔ Med (vf K k) S c := by
  rw [med_mid hn hodd hc fun q hq e => ho q hq (w.three ha hb (hS q hq) hab hv (e.trans hca)), evenB_iff, List.countP_map, List.countP_map]
  have hd := (w.dx hb ha fun e => hab e.symm).1
  have hs := fun q => side_vf (q := q) hv
  rcases Int.lt_trichotomy (b.1 - a.1) 0 with h | h | h
  · have e1 : S.countP ((fun x => decide (0 < x)) ∘ side a b) = S.countP fun q => decide (vf K k q < vf K k c) := List.countP_congr fun q _ => by
      have := (sign_neg w.pos (hs q) h).1
      simp only [Function.comp_def, decide_eq_true_eq]
      omega
    have e2 : S.countP ((fun x => decide (x < 0)) ∘ side a b) = S.countP fun q => decide (vf K k c < vf K k q) := List.countP_congr fun q _ => by
      have := (sign_neg w.pos (hs q) h).2
      simp only [Function.comp_def, decide_eq_true_eq]
      omega
    rw [e1, e2]
  · exact absurd h hd
  · have e1 : S.countP ((fun x => decide (0 < x)) ∘ side a b) = S.countP fun q => decide (vf K k c < vf K k q) := List.countP_congr fun q _ => by
      have := (sign_pos w.pos (hs q) h).1
      simp only [Function.comp_def, decide_eq_true_eq]
      omega
    have e2 : S.countP ((fun x => decide (x < 0)) ∘ side a b) = S.countP fun q => decide (vf K k q < vf K k c) := List.countP_congr fun q _ => by
      have := (sign_pos w.pos (hs q) h).2
      simp only [Function.comp_def, decide_eq_true_eq]
      omega
    rw [e1, e2]
    exact eq_comm
theorem Sw.ok (w : Sw P R B K) {a b : Int × Int} (ha : a ∈ R) (hb : b ∈ B) {k : Int} (hv : vf K k a = vf K k b) : okB R B a b = true ↔ Med (vf K k) R a ∧ Med (vf K k) B b := by
  have hab := w.dis a ha b hb
  unfold okB
  rw [Bool.and_eq_true, w.evenMed w.hR w.nR w.oR (w.hR a ha) (w.hB b hb) hab hv ha rfl fun q hq h => h.resolve_right fun e => w.dis q hq b hb e,
    w.evenMed w.hB w.nB w.oB (w.hR a ha) (w.hB b hb) hab hv hb hv.symm fun q hq h => h.resolve_left fun e => w.dis a ha q hq e.symm]
/-- red's median lies below blue's, in the direction t -/
def Bel (R B : List (Int × Int)) (K t : Int) : Prop := ∃ a b, Med (kf K t) R a ∧ Med (kf K t) B b ∧ kf K t a < kf K t b
theorem bel_iff {t : Int} {a b : Int × Int} (ha : Med (kf K t) R a) (hb : Med (kf K t) B b) : Bel R B K t ↔ kf K t a < kf K t b := by
  constructor
  · rintro ⟨a', b', ha', hb', h⟩
    rw [med_uniq ha ha', med_uniq hb hb']
    exact h
  · intro h
    exact ⟨a, b, ha, hb, h⟩
def dcnt (R B : List (Int × Int)) (K k : Int) : Nat := (R.map fun a => B.countP fun b => decide (okB R B a b = true ∧ mm K a b = k)).sum
def ccnt (R B : List (Int × Int)) (K k : Int) : Nat := (R.map fun a => B.countP fun b => decide (okB R B a b = true ∧ mm K a b < k)).sum
theorem sum_zero {f : Int × Int → Nat} : ∀ {l : List (Int × Int)}, (∀ a ∈ l, f a = 0) → (l.map f).sum = 0
  | [], _ => rfl
  | a :: l, h => by
    rw [List.map_cons, List.sum_cons, h a List.mem_cons_self, sum_zero fun b hb => h b (List.mem_cons_of_mem _ hb)]
theorem sum_one {f : Int × Int → Nat} {a₀ : Int × Int} : ∀ {l : List (Int × Int)}, l.Nodup → a₀ ∈ l → f a₀ = 1 → (∀ a ∈ l, a ≠ a₀ → f a = 0) → (l.map f).sum = 1
  | [], _, h, _, _ => by simp at h
  | b :: l, hn, h, h1, h0 => by
    have hn' := List.nodup_cons.mp hn
    rw [List.map_cons, List.sum_cons]
    by_cases e : b = a₀
    · subst e
      rw [h1, sum_zero fun a ha => h0 a (List.mem_cons_of_mem _ ha) (by rintro rfl; exact hn'.1 ha)]
    · rw [h0 b List.mem_cons_self e, sum_one hn'.2 ((List.mem_cons.mp h).resolve_left fun q => e q.symm) h1 fun a ha => h0 a (List.mem_cons_of_mem _ ha)]
theorem sum_add {f g : Int × Int → Nat} : ∀ l : List (Int × Int), (l.map fun a => f a + g a).sum = (l.map f).sum + (l.map g).sum
  | [] => rfl
  | a :: l => by
    have := sum_add (f := f) (g := g) l
    simp only [List.map_cons, List.sum_cons]
    omega
theorem ccnt_succ (k : Int) : ccnt R B K (k + 1) = ccnt R B K k + dcnt R B K k := by
  unfold ccnt dcnt
  rw [← sum_add]
  congr 1
  refine List.map_congr_left fun a _ => ?_
  rw [← cnt_or fun b _ => by omega]
  refine List.countP_congr fun b _ => ?_
  simp only [decide_eq_true_eq]
  constructor
  · rintro ⟨h1, h2⟩
    rcases Int.lt_or_eq_of_le (Int.le_of_lt_add_one h2) with h | h
    · exact .inl ⟨h1, h⟩
    · exact .inr ⟨h1, h⟩
  · rintro (⟨h1, h2⟩ | ⟨h1, h2⟩)
    · exact ⟨h1, by omega⟩
    · exact ⟨h1, by omega⟩
open Classical in
theorem Sw.turn (w : Sw P R B K) (k : Int) : dcnt R B K k % 2 = if (Bel R B K (2 * k - 1) ↔ Bel R B K (2 * k + 1)) then 0 else 1 := by
  obtain ⟨a1, ha1⟩ := med_exists (kf K (2 * k - 1)) w.oR
  obtain ⟨b1, hb1⟩ := med_exists (kf K (2 * k - 1)) w.oB
  obtain ⟨a2, ha2⟩ := med_exists (kf K (2 * k + 1)) w.oR
  obtain ⟨b2, hb2⟩ := med_exists (kf K (2 * k + 1)) w.oB
  have lo1 : ∀ {S : List (Int × Int)} {c : Int × Int}, (∀ q ∈ S, q ∈ P) → Med (kf K (2 * k - 1)) S c → Med (vf K k) S c := fun hS hc =>
    med_of_order hc (fun q hq h => (w.lo (hS q hq) (hS _ hc.1) (by rintro rfl; omega) k).mpr (.inl h)) fun q hq h => (w.lo (hS _ hc.1) (hS q hq) (by rintro rfl; omega) k).mpr (.inl h)
  have hi1 : ∀ {S : List (Int × Int)} {c : Int × Int}, (∀ q ∈ S, q ∈ P) → Med (kf K (2 * k + 1)) S c → Med (vf K k) S c := fun hS hc =>
    med_of_order hc (fun q hq h => (w.hi (hS q hq) (hS _ hc.1) (by rintro rfl; omega) k).mpr (.inl h)) fun q hq h => (w.hi (hS _ hc.1) (hS q hq) (by rintro rfl; omega) k).mpr (.inl h)
  have va1 := lo1 w.hR ha1
  have vb1 := lo1 w.hB hb1
  have va2 := hi1 w.hR ha2
  have vb2 := hi1 w.hB hb2
  have ea := med_uniq va1 va2
  have eb := med_uniq vb1 vb2
  have p1 := w.hR a1 ha1.1
  have p2 := w.hR a2 ha2.1
  have q1 := w.hB b1 hb1.1
  have q2 := w.hB b2 hb2.1
  have d1 := w.dis a1 ha1.1 b1 hb1.1
  have d2 := w.dis a2 ha2.1 b2 hb2.1
  rw [bel_iff ha1 hb1, bel_iff ha2 hb2, w.lo p1 q1 d1 k, w.hi p2 q2 d2 k]
  by_cases hne : vf K k a1 = vf K k b1
  · have e1 : a2 = a1 := (w.three p1 q1 p2 d1 hne ea.symm).resolve_right (w.dis a2 ha2.1 b1 hb1.1)
    have e2 : b2 = b1 := (w.three p1 q1 q2 d1 hne (by omega)).resolve_left fun e => w.dis a1 ha1.1 b2 hb2.1 e.symm
    subst e1 e2
    have hx := (w.dx p1 q1 d1).1
    have hone : dcnt R B K k = 1 := by
      unfold dcnt
      have uniq : ∀ a ∈ R, ∀ b ∈ B, okB R B a b = true ∧ mm K a b = k → a = a2 ∧ b = b2 := by
        rintro a ha b hb ⟨h1, h2⟩
        have hab := w.dis a ha b hb
        have hv := (w.same (w.hR a ha) (w.hB b hb) hab k).mp h2
        obtain ⟨m1, m2⟩ := (w.ok ha hb hv).mp h1
        have f1 := med_uniq m1 va1
        have f2 := med_uniq m2 vb1
        exact ⟨(w.three p1 q1 (w.hR a ha) d1 hne f1).resolve_right (w.dis a ha b2 hb1.1), (w.three p1 q1 (w.hB b hb) d1 hne (by omega)).resolve_left fun e => w.dis a2 ha1.1 b hb e.symm⟩
      refine sum_one w.nR ha1.1 ?_ ?_
      · rw [← cnt_one w.nB hb1.1]
        refine List.countP_congr fun b hb => ?_
        simp only [decide_eq_true_eq]
        constructor
        · intro h
          exact (uniq a2 ha1.1 b hb h).2
        · rintro rfl
          exact ⟨(w.ok ha1.1 hb1.1 hne).mpr ⟨va1, vb1⟩, (w.same p1 q1 d1 k).mpr hne⟩
      · intro a ha hne'
        refine List.countP_eq_zero.mpr fun b hb h => ?_
        simp only [decide_eq_true_eq] at h
        exact hne' (uniq a ha b hb h).1
    rw [hone, if_neg]
    omega
  · have hzero : dcnt R B K k = 0 := by
      unfold dcnt
      refine sum_zero fun a ha => List.countP_eq_zero.mpr fun b hb h => ?_
      simp only [decide_eq_true_eq] at h
      have hab := w.dis a ha b hb
      have hv := (w.same (w.hR a ha) (w.hB b hb) hab k).mp h.2
      obtain ⟨m1, m2⟩ := (w.ok ha hb hv).mp h.1
      have f1 := med_uniq m1 va1
      have f2 := med_uniq m2 vb1
      omega
    rw [hzero, if_pos]
    omega
end
end
section
/- plain law 8: both clouds halved an odd number of times -/
section
variable {P R B : List (Int × Int)} {K : Int}
theorem Sw.mmb (w : Sw P R B K) {p q : Int × Int} (hp : p ∈ P) (hq : q ∈ P) (h : p ≠ q) : -(1009 * K) ≤ mm K p q ∧ mm K p q ≤ 1009 * K := by
  have h1 := w.slope hp hq h
  have h2 := (w.dx hp hq h).1
  have h3 := w.g.bd p hp
  have h4 := w.g.bd q hq
  have h5 : (mm K p q).natAbs ≤ (mm K p q * (p.1 - q.1)).natAbs := by
    rw [Int.natAbs_mul]
    exact Nat.le_mul_of_pos_right _ (by omega)
  rw [← h1, Int.natAbs_mul] at h5
  have h6 : K.natAbs * (p.2 - q.2).natAbs ≤ K.natAbs * 1009 := Nat.mul_le_mul_left _ (by omega)
  have := w.pos
  omega
open Classical in
theorem Sw.parity (w : Sw P R B K) {k₀ : Int} (h0 : ccnt R B K k₀ = 0) : ∀ j : Nat, ccnt R B K (k₀ + j) % 2 = if (Bel R B K (2 * k₀ - 1) ↔ Bel R B K (2 * (k₀ + j) - 1)) then 0 else 1
  | 0 => by
    have e : k₀ + ((0 : Nat) : Int) = k₀ := by omega
    rw [e, h0, if_pos Iff.rfl]
  | j + 1 => by
    have ih := w.parity h0 j
    have ht := w.turn (k₀ + j)
    have e1 : k₀ + ((j + 1 : Nat) : Int) = (k₀ + j) + 1 := by omega
    have e2 : 2 * ((k₀ + j) + 1) - 1 = 2 * (k₀ + j) + 1 := by omega
    rw [e1, e2, ccnt_succ]
    generalize Bel R B K (2 * k₀ - 1) = X at *
    generalize Bel R B K (2 * (k₀ + j) - 1) = Y at *
    generalize Bel R B K (2 * (k₀ + j) + 1) = Z at *
    by_cases hx : X <;> by_cases hy : Y <;> by_cases hz : Z <;> simp [hx, hy, hz] at ih ht ⊢ <;> omega
theorem Sw.odd (w : Sw P R B K) : bothN R B % 2 = 1 := by
  have hK := w.pos
  have h0 : ccnt R B K (-(1009 * K)) = 0 := by
    unfold ccnt
    refine sum_zero fun a ha => List.countP_eq_zero.mpr fun b hb h => ?_
    simp only [decide_eq_true_eq] at h
    have := w.mmb (w.hR a ha) (w.hB b hb) (w.dis a ha b hb)
    omega
  have h1 : ccnt R B K (1009 * K + 1) = bothN R B := by
    unfold ccnt bothN
    congr 1
    refine List.map_congr_left fun a ha => List.countP_congr fun b hb => ?_
    simp only [decide_eq_true_eq]
    have := w.mmb (w.hR a ha) (w.hB b hb) (w.dis a ha b hb)
    constructor
    · intro h
      exact h.1
    · intro h
      exact ⟨h, by omega⟩
  have hp := w.parity h0 (2 * (1009 * K) + 1).toNat
  have e : -(1009 * K) + (((2 * (1009 * K) + 1).toNat : Nat) : Int) = 1009 * K + 1 := by omega
  rw [e, h1] at hp
  obtain ⟨a, ha⟩ := med_exists (fun q => q.1) w.oR
  obtain ⟨b, hb⟩ := med_exists (fun q => q.1) w.oB
  have lo : ∀ p ∈ P, ∀ q ∈ P, p ≠ q → (kf K (2 * -(1009 * K) - 1) p < kf K (2 * -(1009 * K) - 1) q ↔ p.1 < q.1) := fun p hp q hq h => by
    have h1 := w.kdiff hp hq h (2 * -(1009 * K) - 1)
    have h2 := w.mmb hp hq h
    have h3 := (sign_pos (K := 1) (by decide) ((Int.one_mul _).trans h1) (by omega)).2
    omega
  have hi : ∀ p ∈ P, ∀ q ∈ P, p ≠ q → (kf K (2 * (1009 * K + 1) - 1) p < kf K (2 * (1009 * K + 1) - 1) q ↔ q.1 < p.1) := fun p hp q hq h => by
    have h1 := w.kdiff hp hq h (2 * (1009 * K + 1) - 1)
    have h2 := w.mmb hp hq h
    have h3 := (sign_neg (K := 1) (by decide) ((Int.one_mul _).trans h1) (by omega)).2
    omega
  have m1 : ∀ {S : List (Int × Int)} {c : Int × Int}, (∀ q ∈ S, q ∈ P) → Med (fun q => q.1) S c → Med (kf K (2 * -(1009 * K) - 1)) S c := fun hS hc =>
    med_of_order hc (fun q hq h => (lo q (hS q hq) _ (hS _ hc.1) (by rintro rfl; omega)).mp h) fun q hq h => (lo _ (hS _ hc.1) q (hS q hq) (by rintro rfl; omega)).mp h
  have m2 : ∀ {S : List (Int × Int)} {c : Int × Int}, (∀ q ∈ S, q ∈ P) → Med (fun q => q.1) S c → Med (kf K (2 * (1009 * K + 1) - 1)) S c := fun hS hc =>
    med_of_reverse hc (fun q hq h => (hi q (hS q hq) _ (hS _ hc.1) (by rintro rfl; omega)).mp h) fun q hq h => (hi _ (hS _ hc.1) q (hS q hq) (by rintro rfl; omega)).mp h
  have d := w.dis a ha.1 b hb.1
  have hx := (w.dx (w.hR a ha.1) (w.hB b hb.1) d).1
  rw [bel_iff (m1 w.hR ha) (m1 w.hB hb), bel_iff (m2 w.hR ha) (m2 w.hB hb), lo a (w.hR a ha.1) b (w.hB b hb.1) d, hi a (w.hR a ha.1) b (w.hB b hb.1) d, if_neg (by omega)] at hp
  exact hp
end
theorem law_both {xs : List Int} (hnd : xs.Nodup) (hb : ∀ x ∈ xs, 0 ≤ x ∧ x < 1009) {r : Nat} (hr : r % 2 = 1) (hr2 : r ≤ xs.length) (hb2 : (xs.length - r) % 2 = 1) :
    (∀ a ∈ (pts xs).take r, ∀ b ∈ (pts xs).drop r, MedOk (((pts xs).take r).map (side a b)) ∧ MedOk (((pts xs).drop r).map (side a b))) ∧ bothN ((pts xs).take r) ((pts xs).drop r) % 2 = 1 := by
  have g := gp_pts hnd hb
  obtain ⟨K, hK, hdv⟩ := scale
  have hl : (pts xs).length = xs.length := List.length_map _
  generalize pts xs = P at *
  have hR : ∀ q ∈ P.take r, q ∈ P := fun q hq => List.mem_of_mem_take hq
  have hB : ∀ q ∈ P.drop r, q ∈ P := fun q hq => List.mem_of_mem_drop hq
  have hsplit : (P.take r ++ P.drop r).Nodup := by rw [List.take_append_drop]; exact g.nodup
  have hsp := List.nodup_append.mp hsplit
  have dis : ∀ p ∈ P.take r, ∀ q ∈ P.drop r, p ≠ q := hsp.2.2
  have oR : (P.take r).length % 2 = 1 := by rw [List.length_take]; omega
  have oB : (P.drop r).length % 2 = 1 := by rw [List.length_drop]; omega
  refine ⟨fun a ha b hb' => ⟨?_, ?_⟩, Sw.odd (P := P) ⟨g, hR, hB, hsp.1, hsp.2.1, dis, oR, oB, hK, hdv⟩⟩
  · exact medOk_of (by rw [List.length_map]; exact oR) (zeros_one g hR hsp.1 (hR a ha) (hB b hb') (dis a ha b hb') ha (side_self a b) fun q hq h => ⟨h, dis q hq b hb'⟩)
  · exact medOk_of (by rw [List.length_map]; exact oB) (zeros_one g hB hsp.2.1 (hR a ha) (hB b hb') (dis a ha b hb') hb' (side_other a b) fun q hq h => ⟨fun e => dis a ha q hq e.symm, h⟩)
end
section
theorem tup_pt {tups news : List (Addr × Obj)} {h₀ h : Heap} {L : Addr} (N : News h₀ L h news) (ht : ∀ p ∈ tups, p ∈ news) {v : Value} {p : Int × Int} (x : TupIn tups v p) : PtAt h v p := by
  obtain ⟨q, t, u, e, rfl, hm⟩ := x
  exact ⟨q, t, u, rfl, _, (N _ (ht _ hm)).1, rfl, _, rfl⟩
theorem paired_take {α β : Type} {F : α → β → Prop} : ∀ {l : List α} {k : List β}, Paired F l k → ∀ n : Nat, Paired F (l.take n) (k.take n)
  | _, _, .nil, n => by simp; exact .nil
  | _, _, .cons a b, 0 => .nil
  | _, _, .cons a b, n + 1 => .cons a (paired_take b n)
theorem paired_drop {α β : Type} {F : α → β → Prop} : ∀ {l : List α} {k : List β}, Paired F l k → ∀ n : Nat, Paired F (l.drop n) (k.drop n)
  | _, _, .nil, n => by simp; exact .nil
  | _, _, .cons a b, 0 => .cons a b
  | _, _, .cons a b, n + 1 => paired_drop b n
theorem pts_bd {xs : List Int} (hb : ∀ x ∈ xs, 0 ≤ x ∧ x < 1009) : ∀ p ∈ pts xs, 0 ≤ p.1 ∧ p.1 < 1009 ∧ 0 ≤ p.2 ∧ p.2 < 1009 := by
  intro p hp
  obtain ⟨x, hx, rfl⟩ := List.mem_map.mp hp
  have := hb x hx
  refine ⟨this.1, this.2, Int.emod_nonneg _ (by decide), Int.emod_lt_of_pos _ (by decide)⟩
section
variable {w : World} {dp un : Nat} {fr : Option (List Env)} {gd : Option (List Code)} {s : Shared} {mg mb : Str → Option Value} {mean : ExcName → Option Value} {E : Value → Shared → Prop} {Q : Value → Shared → Prop} {h₀ : Heap} {L : Addr} {m : Str → Option Value} {news : List (Addr × Obj)}
theorem points_b (KX : (hd.heap_39 w.params).In h₀) (T : Top hd.view_39 (looseW hd.view_39 []) mean mg mb h₀) (F : Fr h₀ L s.heap m) (N : News h₀ L s.heap news)
    (hd1 : dp + 2 < recursionLimit) (hu : un + 20 < cLine) {l : Addr} {vs : List Value} {ns : List Int} {c : Nat} {kz : Int} {tk0 : Tok}
    (hg : (l, W.listOf (List.toArray vs) c) ∈ news) (hi : IntsAre vs ns) (hk : 14 ≤ ns.length) (hlen : ns.length < 2 ^ 30) (h1 : 0 ≤ kz) (h2 : kz ≤ 14)
    (hret : ∀ D h' tk' vs' c' (xs : List Int) (tups : List (Addr × Obj)), Fr h₀ L h' m → News h₀ L h' ((D, W.listOf vs' c') :: tups) → (xs.length : Int) = kz → vs'.size ≤ 14 → xs.Nodup → (∀ x ∈ xs, 0 ≤ x ∧ x < 1009) →
      Paired (TupIn tups) vs'.toList (pts xs) → Q (.ref D) { s with heap := h', toks := tk' }) :
    wpAny (model PySem.Challenge.rw_dh5009_01.row.prog w) (AR dp un fr gd) (call (.ref 54) [.ref l, .int kz tk0]) Q E s := by
  obtain ⟨k, rfl⟩ := Int.eq_ofNat_of_zero_le h1
  refine points_call (KX.keeps F.keep) (T.keeps F.keep) hd1 hu (vs := vs) ⟨_, (N _ hg).1, rfl, _, rfl⟩ hi (by omega) (by omega) hlen ?_
  intro D h' tk' vs' c' xs tups kp hn ho ht hxl hnd hxb hp
  have hl := hp.length
  simp only [List.length_map, Array.length_toList] at hl
  refine hret D h' tk' vs' c' xs tups (F.keeps kp) ?_ (by omega) (by omega) hnd hxb hp
  intro p hp'
  rcases List.mem_cons.mp hp' with rfl | hp'
  · exact news_add F (News.nil) kp hn ho _ List.mem_cons_self
  · exact news_add F (News.nil) kp (ht p hp').1 (ht p hp').2 p List.mem_cons_self
theorem both_b (KX : (hd.heap_39 w.params).In h₀) (T : Top hd.view_39 (looseW hd.view_39 []) mean mg mb h₀) (F : Fr h₀ L s.heap m) (N : News h₀ L s.heap news)
    (hd1 : dp + 4 < recursionLimit) (hu : un + 60 < cLine) {lr lb : Addr} {vs : Array Value} {xs : List Int} {tups : List (Addr × Obj)} {c1 c2 : Nat} {rz : Int}
    (hg1 : (lr, W.listOf (slicePick vs none (some rz) none) c1) ∈ news) (hg2 : (lb, W.listOf (slicePick vs (some rz) none none) c2) ∈ news) (ht : ∀ p ∈ tups, p ∈ news)
    (hp : Paired (TupIn tups) vs.toList (pts xs)) (hsz : vs.size ≤ 14) (hnd : xs.Nodup) (hxb : ∀ x ∈ xs, 0 ≤ x ∧ x < 1009) {q q' : Int} (hr : rz = 1 + 2 * q) (hq : 0 ≤ q) (hxl : (xs.length : Int) = rz + (1 + 2 * q')) (hq' : 0 ≤ q')
    (hret : ∀ h' tk' t (n : Nat), Fr h₀ L h' m → News h₀ L h' news → n % 2 = 1 → Q (.int (n : Int) t) { s with heap := h', toks := tk' }) :
    wpAny (model PySem.Challenge.rw_dh5009_01.row.prog w) (AR dp un fr gd) (call (.ref 71) [.ref lr, .ref lb]) Q E s := by
  obtain ⟨r, hrr⟩ := Int.eq_ofNat_of_zero_le (show 0 ≤ rz by omega)
  subst hrr
  rw [slicePick_upto'] at hg1
  rw [slicePick_from'] at hg2
  have hl := hp.length
  have hpl : (pts xs).length = xs.length := List.length_map _
  rw [Array.length_toList] at hl
  have hpt := paired_mono (fun v p => tup_pt N ht (v := v) (p := p)) hp
  have law := law_both hnd hxb (r := r) (by omega) (by omega) (by omega)
  have hbd := pts_bd hxb
  refine both_call (KX.keeps F.keep) (T.keeps F.keep) hd1 hu (R := (pts xs).take r) (B := (pts xs).drop r) ⟨_, (N _ hg1).1, rfl, _, rfl⟩ (paired_take hpt r) ⟨_, (N _ hg2).1, rfl, _, rfl⟩ (paired_drop hpt r)
    (by rw [List.length_take]; omega) (by rw [List.length_drop]; omega) (by rw [List.length_take]; omega) (by rw [List.length_drop]; omega) (fun p hp => hbd p (List.mem_of_mem_take hp)) (fun p hp => hbd p (List.mem_of_mem_drop hp)) law.1 ?_
  intro h' tk' t kp
  exact hret h' tk' t _ (F.keeps kp) (N.grown kp) law.2
theorem lines_b (KX : (hd.heap_39 w.params).In h₀) (T : Top hd.view_39 (looseW hd.view_39 []) mean mg mb h₀) (F : Fr h₀ L s.heap m) (N : News h₀ L s.heap news)
    (hd1 : dp + 4 < recursionLimit) (hu : un + 60 < cLine) {l : Addr} {vs : Array Value} {xs : List Int} {tups : List (Addr × Obj)} {c : Nat}
    (hg : (l, W.listOf vs c) ∈ news) (ht : ∀ p ∈ tups, p ∈ news)
    (hp : Paired (TupIn tups) vs.toList (pts xs)) (hsz : vs.size ≤ 14) (hnd : xs.Nodup) (hxb : ∀ x ∈ xs, 0 ≤ x ∧ x < 1009) (hev : xs.length % 2 = 0) (h0 : 0 < xs.length)
    (hret : ∀ D h' tk' vs' c' (ls : List Int), Fr h₀ L h' m → News h₀ L h' [(D, W.listOf (List.toArray vs') c')] → IntsAre vs' ls → ls.length ≤ 14 → (∀ v ∈ ls, v % 2 = 1) → Q (.ref D) { s with heap := h', toks := tk' }) :
    wpAny (model PySem.Challenge.rw_dh5009_01.row.prog w) (AR dp un fr gd) (call (.ref 78) [.ref l]) Q E s := by
  have hl := hp.length
  have hpl : (pts xs).length = xs.length := List.length_map _
  rw [Array.length_toList] at hl
  have hpt := paired_mono (fun v p => tup_pt N ht (v := v) (p := p)) hp
  have law := law_lines hnd hxb hev h0
  refine lines_call (KX.keeps F.keep) (T.keeps F.keep) hd1 hu (P := pts xs) (vs := vs.toList) ⟨_, (N _ hg).1, rfl, _, rfl⟩ hpt (by omega) (by omega) (by omega) (pts_bd hxb) law.1 ?_
  intro D h' tk' vs' c' kp hn ho hi
  refine hret D h' tk' vs'.toList c' _ (F.keeps kp) (news_add F News.nil kp hn ho) hi ?_ law.2
  unfold linesF
  rw [colF_length]
  omega
end
end
theorem fm4 (n : Int) : 0 ≤ n.fmod 4 ∧ n.fmod 4 < 4 := ⟨Int.fmod_nonneg_of_pos _ (by decide), Int.fmod_lt_of_pos _ (by decide)⟩
theorem bools_true : ∀ {ys : List Value}, (∀ (i : Nat) y, ys[i]? = some y → y = .bool true) → LSm.BoolsAre ys (ys.map fun _ => true)
  | [], _ => .nil
  | y :: ys, h => by
    rw [h 0 y rfl]
    exact .cons _ (bools_true fun i z hz => h (i + 1) z (by simpa using hz))
theorem all_true (ys : List Value) : (ys.map fun _ => true).all id = true := by simp
end Mine
open Mine
local macro_rules | `(tactic| walk_at "MSTEPS") => `(tactic| repeat' ((fail_if_success (with_reducible show wpAny _ _ (pyIter _) _ _ _)); (fail_if_success (with_reducible show wpAny _ _ (exec (PySem.Stmt.While _ _ _ _) _) _ _ _)); (fail_if_success (with_reducible show wpAny _ _ (eval (PySem.Expr.ListComp _ _ _ _) _) _ _ _)); (fail_if_success (with_reducible show wpAny _ _ (newTuple _) _ _ _)); (fail_if_success (with_reducible show wpAny _ _ (call (Value.ref 54) _) _ _ _)); (fail_if_success (with_reducible show wpAny _ _ (call (Value.ref 71) _) _ _ _)); (fail_if_success (with_reducible show wpAny _ _ (call (Value.ref 78) _) _ _ _)); first | (k_unfold; (try dsimp only)) | (k_end; kc_close) | walk1 | (dsimp only; walk1) | (leave1; walk_say "STEP leave1"; (try dsimp only)) | fail "no step"))
local macro_rules | `(tactic| walk_at "MROOM") => `(tactic| first | omega | ((try dsimp only [AR]); omega) | ((try simp only [depth_deeper, units_deeper]); (try dsimp only [AR]); omega))
local macro_rules | `(tactic| walk_at "call ref") => `(tactic| ((with_reducible show wpAny _ _ (call (Value.ref 59) [Value.ref _, Value.ref _, Value.ref _]) _ _ _); (rename Fr _ _ _ _ => cF); (rename News _ _ _ _ => cN); (with_unfolding_all refine' sides_call ?k1 ?k2 ?k3 ?k4 ?k5 ?k6 ?k7 ?k8 ?k9 ?k10 ?b1 ?b2 ?b3 ?b4 ?b5 ?b6 ?b7 ?b8 ?_); (case k1 => exact Frag.In.keeps (by assumption) (Fr.keep cF)); (case k2 => exact Top.keeps (by assumption) (Fr.keep cF)); (case k3 => walk_at "MROOM"); (case k4 => walk_at "MROOM"); (case k5 => exact IsTup.keeps (by assumption) (Fr.keep cF)); (case k6 => exact IsTup.keeps (by assumption) (Fr.keep cF)); (case k7 => exact Heap.IsList.at (by assumption) (fun _ e => Fr.keep cF _ _ e)); (case k8 => exact pts_keep (by assumption) (Fr.keep cF)); (case k9 => omega); (case k10 => assumption); (case b1 => assumption); (case b2 => assumption); (case b3 => assumption); (case b4 => assumption); (case b5 => assumption); (case b6 => assumption); (case b7 => assumption); (case b8 => assumption); (intro D' h' tk' vs' c' kp' hn' ho' hi'; have N' := news_add cF cN kp' hn' ho'; have F' := Fr.keeps cF kp'; have l1 := allNe_of hn' cN; (try simp only [AllNe, List.foldr_cons, List.foldr_nil, and_true] at l1); clear cF cN ho' kp'; (try dsimp only))))
local macro_rules | `(tactic| walk_at "MLEN") => `(tactic| (simp only [List.length_map, List.length_append]; first | assumption | omega))
local macro_rules | `(tactic| walk_at "call ref") => `(tactic| ((with_reducible show wpAny _ _ (call (Value.ref 64) [Value.ref _]) _ _ _); (rename Fr _ _ _ _ => cF); (rename News _ _ _ _ => cN); (with_unfolding_all refine' even_a ?k1 ?k2 ?k3 ?k4 ?k5 ?k6 ?k7 ?_); (case k1 => exact Frag.In.keeps (by assumption) (Fr.keep cF)); (case k2 => exact Top.keeps (by assumption) (Fr.keep cF)); (case k3 => walk_at "MROOM"); (case k4 => walk_at "MROOM"); (case k5 => exact (cN (_, W.listOf _ _) (by k_mem)).1); (case k6 => assumption); (case k7 => walk_at "MLEN"); (intro h' tk' kp'; have N' := News.grown cN kp'; have F' := Fr.keeps cF kp'; clear cF cN kp'; (try dsimp only))))
local macro_rules | `(tactic| walk_at "call ref") => `(tactic| ((with_reducible show wpAny _ _ (call (Value.ref 41) [Value.ref _]) _ _ _); (rename Fr _ _ _ _ => cF); (rename News _ _ _ _ => cN); (with_unfolding_all refine' med_low_a ?k1 ?k2 ?k3 ?k4 ?k5 ?k6 ?k7 ?k8 ?k9 ?_); (case k1 => exact Frag.In.keeps (by assumption) (Fr.keep cF)); (case k2 => exact Top.keeps (by assumption) (Fr.keep cF)); (case k3 => walk_at "MROOM"); (case k4 => walk_at "MROOM"); (case k5 => exact (cN (_, W.listOf _ _) (by k_mem)).1); (case k6 => assumption); (case k7 => walk_at "MLEN"); (case k8 => walk_at "MLEN"); (case k9 => walk_at "MLEN"); (intro h' tk' t' kp'; have N' := News.grown cN kp'; have F' := Fr.keeps cF kp'; clear cF cN kp'; (try dsimp only))))
local macro_rules | `(tactic| walk_at "call ref") => `(tactic| ((with_reducible show wpAny _ _ (call (Value.ref 48) [Value.ref _]) _ _ _); (rename Fr _ _ _ _ => cF); (rename News _ _ _ _ => cN); (with_unfolding_all refine' med_high_a ?k1 ?k2 ?k3 ?k4 ?k5 ?k6 ?k7 ?k8 ?_); (case k1 => exact Frag.In.keeps (by assumption) (Fr.keep cF)); (case k2 => exact Top.keeps (by assumption) (Fr.keep cF)); (case k3 => walk_at "MROOM"); (case k4 => walk_at "MROOM"); (case k5 => exact (cN (_, W.listOf _ _) (by k_mem)).1); (case k6 => assumption); (case k7 => walk_at "MLEN"); (case k8 => walk_at "MLEN"); (intro h' tk' t' kp'; have N' := News.grown cN kp'; have F' := Fr.keeps cF kp'; clear cF cN kp'; (try dsimp only))))
local macro_rules | `(tactic| walk_at "call ref") => `(tactic| ((with_reducible show wpAny _ _ (call (Value.ref 34) [Value.ref _]) _ _ _); (rename Fr _ _ _ _ => cF); (rename News _ _ _ _ => cN); (with_unfolding_all refine' med_odd_a ?k1 ?k2 ?k3 ?k4 ?k5 ?k6 ?k7 ?k8 ?_); (case k1 => exact Frag.In.keeps (by assumption) (Fr.keep cF)); (case k2 => exact Top.keeps (by assumption) (Fr.keep cF)); (case k3 => walk_at "MROOM"); (case k4 => walk_at "MROOM"); (case k5 => exact (cN (_, W.listOf _ _) (by k_mem)).1); (case k6 => assumption); (case k7 => walk_at "MLEN"); (case k8 => walk_at "MLEN"); (intro h' tk' t' kp'; have N' := News.grown cN kp'; have F' := Fr.keeps cF kp'; clear cF cN kp'; (try dsimp only))))
local macro_rules | `(tactic| walk_at "call ref") => `(tactic| ((with_reducible show wpAny _ _ (call (Value.ref 34) [Value.ref _]) _ _ _); (rename Fr _ _ _ _ => cF); (rename News _ _ _ _ => cN); (with_unfolding_all refine' med_even_a ?k1 ?k2 ?k3 ?k4 ?k5 ?k6 ?k7 ?k8 ?k9 ?k10 ?_); (case k1 => exact Frag.In.keeps (by assumption) (Fr.keep cF)); (case k2 => exact Top.keeps (by assumption) (Fr.keep cF)); (case k3 => walk_at "MROOM"); (case k4 => walk_at "MROOM"); (case k5 => exact (cN (_, W.listOf _ _) (by k_mem)).1); (case k6 => assumption); (case k7 => walk_at "MLEN"); (case k8 => walk_at "MLEN"); (case k9 => walk_at "MLEN"); (case k10 => assumption); (intro h' tk' t' kp' bits' hbits'; have N' := News.grown cN kp'; have F' := Fr.keeps cF kp'; clear cF cN kp'; (try dsimp only))))
local macro_rules | `(tactic| walk_at "call builtin:len") => `(tactic| ((rename Fr _ _ _ _ => cF); refine len_base (by assumption) cF (by assumption) (by omega) ?_))

local macro_rules | `(tactic| walk_at "subscriptTail Name Slice ref ref") => `(tactic| ((with_reducible show wpAny _ _ (subscriptTail _ (PySem.Expr.Slice _ _ none _) (Value.ref _) (Value.ref _)) _ _ _); k_dflt (refine' kmk_slice ?F ?N ?l ?p ?q ?_ ?s ?t ?z; (case F => k_asm); (case N => k_asm); (case l => kmk_list); (case p => kmk_part); (case q => kmk_part); (case s => with_unfolding_all rfl); (case t => kmk_pure); (case z => (rw [sizeLine_eq]; omega))); intro D' h' F' N' l1; (try k_sweep)))
set_option maxRecDepth 100000 in
set_option maxHeartbeats 8000000 in
theorem PySem.Challenge.cw_dh5009_01_holds : PySem.Challenge.rw_dh5009_01.Holds := by
  refine hd ?_
  k_go0
  (all_goals try k_fold)
  rename Frag.In _ _ => KX
  have hTail : IsTup _ 49 _ := ⟨_, KX 49 _ (by k_is), rfl, _, rfl⟩
  walk_at "MSTEPS"
  rename Fr _ _ _ _ => F1
  rename News _ _ _ _ => N1
  rename IntsAre _ (_ ++ _) => I1
  rename List Int => ns
  have f1 := fm4 (ns.length : Int)
  have f2 := fm4 (if (ns ++ [7, 200, 3, 950, 41, 600, 18, 333, 77, 512, 5, 808, 260, 91]).sum < 0 then -(ns ++ [7, 200, 3, 950, 41, 600, 18, 333, 77, 512, 5, 808, 260, 91]).sum else (ns ++ [7, 200, 3, 950, 41, 600, 18, 333, 77, 512, 5, 808, 260, 91]).sum)
  with_unfolding_all refine points_b KX (by assumption) F1 N1 ?_ ?_ List.mem_cons_self I1 ?_ ?_ ?_ ?_ ?_
  · decide
  · exact Nat.le_of_ble_eq_true rfl
  · simp
  · simp; omega
  · omega
  · omega
  intro D h' tk' vs' c' xs tups F2 N2 hxl hsz hnd hxb hp
  clear F1 N1
  (try dsimp only)
  (try k_fold)
  walk_at "MSTEPS"
  rename Fr _ _ _ _ => F3
  rename News _ _ _ _ => N3
  with_unfolding_all refine both_b KX (by assumption) F3 N3 ?_ ?_ (List.mem_cons_of_mem _ List.mem_cons_self) List.mem_cons_self (fun p hp' => List.mem_cons_of_mem _ (List.mem_cons_of_mem _ (List.mem_cons_of_mem _ hp'))) hp hsz hnd hxb rfl f1.1 hxl f2.1 ?_
  · decide
  · exact Nat.le_of_ble_eq_true rfl
  intro h' tk' t n F4 N4 hodd
  have hodd' : (n : Int).fmod 2 = 1 := by
    rw [Int.fmod_eq_emod_of_nonneg _ (by decide)]
    omega
  clear F3 N3
  (try dsimp only)
  (try k_fold)
  walk_at "MSTEPS"
  rename Fr _ _ _ _ => F5
  rename News _ _ _ _ => N5
  with_unfolding_all refine LCg.ListComp_U (F₀ := F5) (by rfl) (by decide) (by rfl) (by decide) (by rfl) ?_
  walk_at "MSTEPS"
  with_unfolding_all refine lines_b KX (by assumption) F5 N5 ?_ ?_ (List.mem_cons_of_mem _ (List.mem_cons_of_mem _ List.mem_cons_self)) (fun p hp' => List.mem_cons_of_mem _ (List.mem_cons_of_mem _ (List.mem_cons_of_mem _ hp'))) hp hsz hnd hxb ?_ ?_ ?_
  · decide
  · exact Nat.le_of_ble_eq_true rfl
  · omega
  · omega
  intro D2 h2 tk2 vs2 c2 ls F6 N6 hI2 hll hodds
  clear F5 N5
  (try dsimp only)
  have hvl := IntsAre.length hI2
  refine LCg.CompSrc.ledger (by rfl) F6 N6 List.mem_cons_self (by rw [List.size_toArray, sizeLine_eq]; omega) ?_
  intro g
  refine comp_all (fun i y => y = .bool true) _ (.inr ⟨_, List.mem_cons_self, rfl, _, rfl⟩) ?_ ?_
  · intro i v ys I oI C oC D m₂ h tk E' hi hP hC hx F N
    obtain ⟨z, tz, rfl, hzi⟩ := IntsAre.at hI2 i v (by simpa using hP)
    have hz := hodds z (List.mem_of_getElem? hzi)
    have hz2 : z.fmod 2 = 1 := by
      rw [Int.fmod_eq_emod_of_nonneg _ (by decide)]
      exact hz
    clear F6 N6
    walk_at "MSTEPS"
    rw [hz2]
    rfl
  · intro ys hys hR
    unfold LCg.FinE
    intro D h tk F N _
    (try k_fold)
    walk_at "MSTEPS"
    rename Fr _ _ _ _ => F8
    rename News _ _ _ _ => N8
    with_unfolding_all refine LSm.all_bools F8 N8 (by rfl) ⟨_, (N8 (D, LCg.lst ys) List.mem_cons_self).1, rfl, _, rfl⟩ (bools_true hR) ?_
    intro h' tk' F9 N9
    rw [all_true]
    (try dsimp only)
    (try k_fold)
    walk_at "MSTEPS"
