import Derived.Test.YbulkxiuNk
namespace Go.Proofs.Ybulkxiu
open Go.RowKit Go.Sort Go.Shelf Go.Lib
set_option maxRecDepth 100000
theorem ownL_mem {evp : Nat → Option Nat} {nd : Nat → Nat} {par : Nat} {cs : List (Option Nat)} {x : Nat} (h : x ∈ ownL evp nd par cs) : x ≠ 0 ∧ x ∈ cs.map (nodeAt evp nd) := by
  unfold ownL at h
  rw [List.mem_filter] at h
  obtain ⟨h1, h2⟩ := h
  simp only [ne_eq, Bool.and_eq_true, decide_not, Bool.not_eq_true', decide_eq_false_iff_not] at h2
  exact ⟨h2.1, h1⟩
theorem dropB_self (G : PG) (x : Nat) : dropB G x x = true := by unfold dropB; simp
theorem redStep_sub {G : PG} {K : List Nat} {x y : Nat} (h : y ∈ K) : y ∈ redStep G K x := by
  unfold redStep; split
  · rename_i e; rw [List.getLast?_eq_none_iff.1 e] at h; cases h
  · split
    · exact h
    · exact List.mem_append_left _ h
theorem redStep_cov (G : PG) (K : List Nat) (x : Nat) : ∃ y ∈ redStep G K x, dropB G y x = true := by
  unfold redStep; split
  · exact ⟨x, by simp, dropB_self G x⟩
  · rename_i y e
    split
    · rename_i h; exact ⟨y, List.mem_of_getLast? e, h⟩
    · exact ⟨x, by simp, dropB_self G x⟩
theorem redFold_sub (G : PG) : ∀ (l K : List Nat) (y : Nat), y ∈ K → y ∈ l.foldl (redStep G) K
  | [], _, _, h => h
  | x :: l, K, y, h => redFold_sub G l (redStep G K x) y (redStep_sub h)
theorem redFold_cov (G : PG) : ∀ (l K : List Nat) (x : Nat), x ∈ l → ∃ y ∈ l.foldl (redStep G) K, dropB G y x = true
  | [], _, _, h => by cases h
  | z :: l, K, x, h => by
    rcases List.mem_cons.1 h with rfl | h
    · obtain ⟨y, h1, h2⟩ := redStep_cov G K x
      exact ⟨y, redFold_sub G l _ y h1, h2⟩
    · exact redFold_cov G l (redStep G K z) x h
/-- Two nodes that the order does not set the wrong way round. -/
theorem lt_of_not {G : PG} {a b : Nat} (ha : a < G.n) (hb : b < G.n) (h : ltOf (cfC G) b a = false) (hne : a ≠ b) : ltOf (cfC G) a b = true := by
  rw [ltN_false, cl_in ha, cl_in hb] at h
  rw [ltN_iff, cl_in ha, cl_in hb]
  omega
theorem redFold_pw (G : PG) : ∀ (l K : List Nat), (∀ x ∈ K ++ l, x < G.n) → (K ++ l).Pairwise (fun a b => ltOf (cfC G) b a = false) → K.Pairwise (fun a b => ltOf (cfC G) a b = true) → (l.foldl (redStep G) K).Pairwise (fun a b => ltOf (cfC G) a b = true)
  | [], K, _, _, h => h
  | x :: l, K, hr, hs, h => by
    simp only [List.foldl_cons]
    unfold redStep
    split
    · rename_i e
      have eK := List.getLast?_eq_none_iff.1 e
      subst eK
      exact redFold_pw G l [x] hr hs (List.pairwise_singleton _ _)
    · rename_i y e
      split
      · refine redFold_pw G l K (fun z hz => hr z ?_) (hs.sublist ?_) h
        · rcases List.mem_append.1 hz with q | q
          · exact List.mem_append_left _ q
          · exact List.mem_append_right _ (List.mem_cons_of_mem _ q)
        · exact List.Sublist.append (List.Sublist.refl _) (List.sublist_cons_self _ _)
      · rename_i hd
        have e2 : K ++ x :: l = (K ++ [x]) ++ l := by simp
        rw [e2] at hr hs
        refine redFold_pw G l (K ++ [x]) hr hs ?_
        rw [List.pairwise_append]
        refine ⟨h, List.pairwise_singleton _ _, fun z hz x' hx' => ?_⟩
        have hx'' : x' = x := by simpa using hx'
        subst hx''
        have hyK : y ∈ K := List.mem_of_getLast? e
        have R : ∀ u ∈ K, ltOf (cfC G) x' u = false := fun u hu => by
          have h3 := (List.pairwise_append.1 (List.pairwise_append.1 hs).1).2.2 u hu x' (by simp)
          exact h3
        refine lt_of_not (hr z (by simp [hz])) (hr x' (by simp)) (R z hz) fun q => ?_
        subst q
        obtain ⟨K0, e3⟩ := List.getLast?_eq_some_iff.1 e
        by_cases q : z = y
        · subst q; exact hd (dropB_self G z)
        · have hz0 : z ∈ K0 := by
            rw [e3] at hz
            rcases List.mem_append.1 hz with q2 | q2
            · exact q2
            · exact absurd (by simpa using q2) q
          rw [e3] at h
          have h4 := (List.pairwise_append.1 h).2.2 z hz0 y (by simp)
          have h5 := R y hyK
          rw [h4] at h5; cases h5
theorem pw_nodup (G : PG) : ∀ l : List Nat, l.Pairwise (fun a b => ltOf (cfC G) a b = true) → l.Nodup
  | [], _ => List.nodup_nil
  | a :: l, h => by
    rw [List.pairwise_cons] at h
    rw [List.nodup_cons]
    refine ⟨fun m => ?_, pw_nodup G l h.2⟩
    have h1 := h.1 a m
    rw [ltN_iff] at h1; omega
theorem sorted_pw (G : PG) (L : List Nat) (h : SortedG G L) : L.Pairwise (fun a b => ltOf (cfC G) b a = false) := by
  rw [List.pairwise_iff_getElem]
  intro i j hi hj hij
  have := h i j hij hj
  simpa [List.getD, hi, hj] using this
theorem red_nodup {G : PG} {L : List Nat} (hL : ∀ x ∈ L, x < G.n) (h : SortedG G L) : (red G L).Nodup :=
  pw_nodup G _ (redFold_pw G L [] (by simpa using hL) (by simpa using sorted_pw G L h) List.Pairwise.nil)
theorem WF.path {G : PG} (h : WF G) {k : Nat} (hk : k < G.n) (hp : G.par k ≠ 0) : ∃ J, G.jmp k = J + 1 ∧ J ≤ k ∧ 1 ≤ pathN G k ∧ pathN G k ≤ G.dep k ∧ upN G (pathN G k) (k + 1) = J + 1 ∧ G.dep J = G.dep k - pathN G k := by
  obtain ⟨_, _, t, t1, t2, t3⟩ := h.kid k hk hp
  obtain ⟨j, j1, j2, j3⟩ := h.up t k hk t2
  have hj : G.jmp k = j + 1 := t3.symm.trans j1
  have e : pathN G k = t := by unfold pathN; rw [hj, Nat.add_sub_cancel]; omega
  rw [e]
  exact ⟨j, hj, j2, t1, t2, j1, j3⟩
theorem CovN.tr {G : PG} (hw : WF G) {a b c : Nat} (ha0 : a ≠ 0) (ha : a ≤ G.n) (h1 : CovN G a b) (h2 : CovN G b c) : CovN G a c := by
  rcases h1 with rfl | ⟨x1, x2, t, x3, x4, x5⟩
  · exact h2
  · rcases h2 with rfl | ⟨y1, y2, u, y3, y4, y5⟩
    · exact Or.inr ⟨x1, x2, t, x3, x4, x5⟩
    · obtain ⟨j, j1, j2, j3⟩ := hw.up t (a - 1) (by omega) x4
      rw [show a - 1 + 1 = a by omega, x5] at j1
      rw [j1, Nat.add_sub_cancel, j3] at y4
      exact Or.inr ⟨x1.trans y1, x2.trans y2, t + u, by omega, by omega, by rw [upN_add, x5]; exact y5⟩
theorem cov_drop {G : PG} {y x : Nat} (h : dropB G y x = true) : CovN G (y + 1) (x + 1) := by
  unfold dropB at h
  simp only [Bool.or_eq_true, beq_iff_eq, Bool.and_eq_true] at h
  rcases h with rfl | ⟨⟨h1, h2⟩, h3⟩
  · exact Or.inl rfl
  · unfold descB at h3
    rw [decide_eq_true_eq] at h3
    exact Or.inr ⟨h1, h2, G.dep y - G.dep x, by omega, by rw [Nat.add_sub_cancel]; omega, h3.2⟩
theorem CovN.old {G : PG} (hw : WF G) {a c e p : Nat} {ty ky : Bool} (ha : a ≤ G.n) (hc0 : c ≠ 0) (hc : c ≤ G.n) (h : CovN G a c) : CovN (addG G e ty ky p) a c := by
  rcases h with h | ⟨h1, h2, t, h3, h4, h5⟩
  · exact Or.inl h
  · refine Or.inr ⟨?_, ?_, t, h3, ?_, ?_⟩
    · show upd G.ty G.n ty (a - 1) = upd G.ty G.n ty (c - 1)
      rw [upd_other _ _ _ (by omega), upd_other _ _ _ (by omega)]; exact h1
    · show upd G.ky G.n ky (a - 1) = upd G.ky G.n ky (c - 1)
      rw [upd_other _ _ _ (by omega), upd_other _ _ _ (by omega)]; exact h2
    · show t ≤ upd G.dep G.n _ (a - 1)
      rw [upd_other _ _ _ (by omega)]; exact h4
    · rw [upN_addG hw e ty ky p t a ha]; exact h5
/-- What a node names, along its path. -/
theorem namN_path {evp : Nat → Option Nat} {nd : Nat → Nat} {G : PG} {cs : Nat → List (Option Nat)} {own nm : Nat → List Nat} (h : NKs G own nm) (hw : WF G) (hown : ∀ k, k < G.n → own k = ownL evp nd (G.par k) (cs k)) {k : Nat} (hk : k < G.n) (hp : G.par k ≠ 0) :
    (∀ x ∈ namN evp nd G cs nm k, x ≠ 0 ∧ ∃ t, t < pathN G k ∧ x ∈ own (upN G t (k + 1) - 1)) ∧ ∀ t, t < pathN G k → ∀ c ∈ own (upN G t (k + 1) - 1), ∃ x ∈ namN evp nd G cs nm k, CovN G x c := by
  obtain ⟨J, j1, _, j2, _, _, j5⟩ := hw.path hk hp
  cases hps : passG G k with
  | true =>
    have e : namN evp nd G cs nm k = (nm k).map (· + 1) := by unfold namN; rw [hps]; rfl
    have K := h k hk hps
    rw [e]
    refine ⟨fun x hx => ?_, fun t ht c hc => ?_⟩
    · obtain ⟨y, hy, rfl⟩ := List.mem_map.1 hx
      exact ⟨by omega, K.sub y hy⟩
    · obtain ⟨y, hy, hcv⟩ := K.cov t ht c hc
      exact ⟨y + 1, List.mem_map.2 ⟨y, hy, rfl⟩, hcv⟩
  | false =>
    have e : namN evp nd G cs nm k = own k := by rw [hown k hk]; unfold namN; rw [hps]; rfl
    have hj : G.jmp k = G.par k := by
      unfold passG at hps
      rw [decide_eq_false_iff_not] at hps
      exact Decidable.byContradiction fun q => hps ⟨hp, q⟩
    have e1 : pathN G k = 1 := by
      have h2 := (hw.kid k hk hp).2.1
      unfold pathN; rw [hj]; omega
    rw [e, e1]
    refine ⟨fun x hx => ⟨?_, 0, by omega, hx⟩, fun t ht c hc => ?_⟩
    · rw [hown k hk] at hx; exact (ownL_mem hx).1
    · obtain rfl : t = 0 := by omega
      exact ⟨c, hc, Or.inl rfl⟩
/-- A node more: what the law asks of its named row. -/
theorem NKs.add {evp : Nat → Option Nat} {nd : Nat → Nat} {G : PG} {cs : Nat → List (Option Nat)} {own nm nm' : Nat → List Nat} {c : List (Option Nat)} {p e : Nat} {ty ky : Bool} (h : NKs G own nm) (hw : WF G) (hp : p ≤ G.n) (hown : ∀ k, k < G.n → own k = ownL evp nd (G.par k) (cs k)) (hle : ∀ k, k < G.n → ∀ x ∈ own k, x ≠ 0 ∧ x ≤ G.n) (hnlt : ∀ k, k < G.n → passG G k = true → ∀ y ∈ nm k, y < G.n) (hc : ∀ x ∈ ownL evp nd p c, x ≠ 0 ∧ x ≤ G.n) (hnm : ∀ k, k < G.n → nm' k = nm k) (hR : passG (addG G e ty ky p) G.n = true → NamR evp nd G cs nm c p (nm' G.n)) :
    NKs (addG G e ty ky p) (upd own G.n (ownL evp nd p c)) nm' := by
  have upl : ∀ t k, k < G.n → t ≤ G.dep k → upN G t (k + 1) - 1 < G.n := fun t k hk ht => by
    obtain ⟨j, j1, j2, _⟩ := hw.up t k hk ht
    rw [j1]; omega
  intro k hk hpk
  by_cases q : k = G.n
  · subst q
    obtain ⟨L, hL1, hL2, hL3⟩ := hR hpk
    rw [passG_new, decide_eq_true_eq] at hpk
    obtain ⟨p0, pj⟩ := hpk
    obtain ⟨q, hq⟩ : ∃ q, p = q + 1 := ⟨p - 1, by omega⟩
    have hqn : q < G.n := by omega
    -- the parent has a parent, and its jump too
    have hpq : G.par q ≠ 0 := fun z => by
      apply pj
      have r := (hw.root q hqn z).2
      unfold jmpOf
      rw [if_neg p0, hq, Nat.add_sub_cancel, r, Nat.add_sub_cancel, r]
      simp
    obtain ⟨J, a1, a2, a3, a4, a5, a6⟩ := hw.path hqn hpq
    have hJn : J < G.n := by omega
    have hcond : G.dep q - G.dep J = G.dep J - G.dep (G.jmp J - 1) := Decidable.byContradiction fun z => pj (by unfold jmpOf; rw [if_neg p0, hq, Nat.add_sub_cancel, a1, Nat.add_sub_cancel, if_neg z])
    have hjm : jmpOf G p = G.jmp J := by unfold jmpOf; rw [if_neg p0, hq, Nat.add_sub_cancel, a1, Nat.add_sub_cancel, if_pos hcond]
    have hpJ : G.par J ≠ 0 := fun z => by
      have r := (hw.root J hJn z).2
      rw [r, Nat.add_sub_cancel] at hcond
      omega
    obtain ⟨JJ, b1, b2, b3, b4, b5, b6⟩ := hw.path hJn hpJ
    obtain ⟨Sq, Cq⟩ := namN_path h hw hown hqn hpq
    obtain ⟨SJ, CJ⟩ := namN_path h hw hown hJn hpJ
    have hpath : pathN (addG G e ty ky p) G.n = 1 + pathN G q + pathN G J := by
      unfold pathN
      rw [show (addG G e ty ky p).dep G.n = depOf G p from upd_same _ _ _, show (addG G e ty ky p).jmp G.n = jmpOf G p from upd_same _ _ _, hjm, b1, Nat.add_sub_cancel, show (addG G e ty ky p).dep JJ = G.dep JJ from upd_other _ _ _ (by omega)]
      unfold depOf
      rw [if_neg p0, hq, Nat.add_sub_cancel, a1, Nat.add_sub_cancel]
      unfold pathN at b4 b6 a4 a6 a3 b3
      rw [a1, Nat.add_sub_cancel] at a6 a4 a3
      rw [b1, Nat.add_sub_cancel] at b6 b4 b3
      omega
    have up0 : ∀ a, upN (addG G e ty ky p) (1 + a) (G.n + 1) = upN G a (q + 1) := fun a => by
      rw [Nat.add_comm 1 a]
      show upN (addG G e ty ky p) a (st (addG G e ty ky p) (G.n + 1)) = _
      rw [show st (addG G e ty ky p) (G.n + 1) = p by unfold st; rw [if_neg (by omega), Nat.add_sub_cancel]; exact upd_same _ _ _, upN_addG hw e ty ky p a p hp, hq]
    have up1 : ∀ b, upN G (pathN G q + b) (q + 1) = upN G b (J + 1) := fun b => by rw [upN_add, a5]
    have o0 : upd own G.n (ownL evp nd p c) (upN (addG G e ty ky p) 0 (G.n + 1) - 1) = ownL evp nd p c := upd_same _ _ _
    have oq : ∀ a, a < pathN G q → upd own G.n (ownL evp nd p c) (upN (addG G e ty ky p) (1 + a) (G.n + 1) - 1) = own (upN G a (q + 1) - 1) := fun a ha => by
      rw [up0]; exact upd_other _ _ _ (by have := upl a q hqn (by omega); omega)
    have oJ : ∀ b, b < pathN G J → upd own G.n (ownL evp nd p c) (upN (addG G e ty ky p) (1 + (pathN G q + b)) (G.n + 1) - 1) = own (upN G b (J + 1) - 1) := fun b hb => by
      rw [up0, up1]; exact upd_other _ _ _ (by have := upl b J hJn (by omega); omega)
    have inL : ∀ x, x ∈ ownL evp nd p c ∨ x ∈ namN evp nd G cs nm q ∨ x ∈ namN evp nd G cs nm J → x ≠ 0 → x - 1 ∈ L := fun x hx _ => by
      refine hL1.symm.subset (List.mem_map.2 ⟨x, ?_, rfl⟩)
      rw [hq, Nat.add_sub_cancel, a1, Nat.add_sub_cancel, ← hq]
      simp only [List.mem_append]
      rcases hx with hx | hx | hx
      · exact Or.inl (Or.inl hx)
      · exact Or.inl (Or.inr hx)
      · exact Or.inr hx
    have ofL : ∀ y ∈ L, ∃ x, x = y + 1 ∧ (x ∈ ownL evp nd p c ∨ x ∈ namN evp nd G cs nm q ∨ x ∈ namN evp nd G cs nm J) := fun y hy => by
      obtain ⟨x, hx, rfl⟩ := List.mem_map.1 (hL1.subset hy)
      rw [hq, Nat.add_sub_cancel, a1, Nat.add_sub_cancel, ← hq] at hx
      simp only [List.mem_append] at hx
      rcases hx with (hx | hx) | hx
      · exact ⟨x, by have := (hc x hx).1; show x = x - 1 + 1; omega, Or.inl hx⟩
      · exact ⟨x, by have := (Sq x hx).1; show x = x - 1 + 1; omega, Or.inr (Or.inl hx)⟩
      · exact ⟨x, by have := (SJ x hx).1; show x = x - 1 + 1; omega, Or.inr (Or.inr hx)⟩
    have ltL : ∀ y ∈ L, y < G.n := fun y hy => by
      obtain ⟨x, hx, hx2⟩ := ofL y hy
      rcases hx2 with hx2 | hx2 | hx2
      · have := (hc x hx2).2; omega
      · obtain ⟨_, t, t1, t2⟩ := Sq x hx2
        have := (hle _ (upl t q hqn (by omega)) x t2).2; omega
      · obtain ⟨_, t, t1, t2⟩ := SJ x hx2
        have := (hle _ (upl t J hJn (by omega)) x t2).2; omega
    have fin : ∀ x d, (x ∈ ownL evp nd p c ∨ x ∈ namN evp nd G cs nm q ∨ x ∈ namN evp nd G cs nm J) → x ≠ 0 → d ≠ 0 → d ≤ G.n → CovN G x d → ∃ y ∈ nm' G.n, CovN (addG G e ty ky p) (y + 1) d := fun x d hx hx0 hd0 hd hcv => by
      obtain ⟨y, y1, y2⟩ := redFold_cov G L [] (x - 1) (inL x hx hx0)
      have yL := ltL y (red_mem y1)
      refine ⟨y, by rw [hL3]; exact y1, CovN.old hw (by omega) hd0 hd (CovN.tr hw (by omega) (by omega) ?_ hcv)⟩
      have := cov_drop y2
      rw [show x - 1 + 1 = x by omega] at this
      exact this
    refine ⟨by rw [hL3]; exact red_nodup ltL hL2, fun y hy => ?_, fun t ht d hd => ?_⟩
    · rw [hL3] at hy
      obtain ⟨x, rfl, hx⟩ := ofL y (red_mem hy)
      rw [hpath]
      rcases hx with hx | hx | hx
      · exact ⟨0, by omega, by rw [o0]; exact hx⟩
      · obtain ⟨_, t, t1, t2⟩ := Sq _ hx
        exact ⟨1 + t, by omega, by rw [oq t t1]; exact t2⟩
      · obtain ⟨_, t, t1, t2⟩ := SJ _ hx
        exact ⟨1 + (pathN G q + t), by omega, by rw [oJ t t1]; exact t2⟩
    · rw [hpath] at ht
      by_cases z0 : t = 0
      · subst z0
        rw [o0] at hd
        exact fin d d (Or.inl hd) (hc d hd).1 (hc d hd).1 (hc d hd).2 (Or.inl rfl)
      · by_cases z1 : t - 1 < pathN G q
        · rw [show t = 1 + (t - 1) by omega, oq _ z1] at hd
          obtain ⟨x, x1, x2⟩ := Cq _ z1 d hd
          have := hle _ (upl (t - 1) q hqn (by omega)) d hd
          exact fin x d (Or.inr (Or.inl x1)) (Sq x x1).1 this.1 this.2 x2
        · rw [show t = 1 + (pathN G q + (t - 1 - pathN G q)) by omega, oJ _ (by omega)] at hd
          obtain ⟨x, x1, x2⟩ := CJ _ (by omega) d hd
          have := hle _ (upl (t - 1 - pathN G q) J hJn (by omega)) d hd
          exact fin x d (Or.inr (Or.inr x1)) (SJ x x1).1 this.1 this.2 x2
  · have hk' : k < G.n := by have : k < G.n + 1 := hk; omega
    rw [passG_old G e ty ky p hk'] at hpk
    have K := h k hk' hpk
    have hpar : G.par k ≠ 0 := by unfold passG at hpk; rw [decide_eq_true_eq] at hpk; exact hpk.1
    obtain ⟨J, a1, a2, a3, a4, a5, a6⟩ := hw.path hk' hpar
    have hpath : pathN (addG G e ty ky p) k = pathN G k := by
      unfold pathN
      rw [show (addG G e ty ky p).dep k = G.dep k from upd_other _ _ _ q, show (addG G e ty ky p).jmp k = G.jmp k from upd_other _ _ _ q, a1, Nat.add_sub_cancel, show (addG G e ty ky p).dep J = G.dep J from upd_other _ _ _ (by omega)]
    have ow : ∀ t, t < pathN G k → upd own G.n (ownL evp nd p c) (upN (addG G e ty ky p) t (k + 1) - 1) = own (upN G t (k + 1) - 1) := fun t ht => by
      rw [upN_addG hw e ty ky p t (k + 1) (by omega)]
      exact upd_other _ _ _ (by have := upl t k hk' (by omega); omega)
    refine ⟨by rw [hnm k hk']; exact K.nd, fun y hy => ?_, fun t ht d hd => ?_⟩
    · rw [hnm k hk'] at hy
      obtain ⟨t, t1, t2⟩ := K.sub y hy
      exact ⟨t, by rw [hpath]; exact t1, by rw [ow t t1]; exact t2⟩
    · rw [hpath] at ht
      rw [ow t ht] at hd
      obtain ⟨y, y1, y2⟩ := K.cov t ht d hd
      have h1 := hnlt k hk' hpk y y1
      have h2 := hle _ (upl t k hk' (by omega)) d hd
      exact ⟨y, by rw [hnm k hk']; exact y1, CovN.old hw (by omega) h2.1 h2.2 y2⟩
end Go.Proofs.Ybulkxiu
