import Derived.Test.YbulkxfoStablePlain
namespace Go.Proofs.Ybulkxfo
open Go.Shelf Go.RowKit Go.Lib Go.Sort
variable {P : Program} {α : Type} [Inhabited α]

theorem sym_all {k : Nat} (T : TF P k) (F17 : P.funcs[17]? = some Yba.f17) (F18 : P.funcs[18]? = some Yba.f18) (F19 : P.funcs[19]? = some Yba.f19) (enc : α → List Value) (cf : α → α → Int) (hO : SWO (ltOf cf)) (g : Nat) (cb : Array Value) (blk off cap n : Nat) (d0 : Array α) (w0 : World)
    (eg : ∀ args w, (callFunc g args).run P w = .ok (.enter g args) w) (hcmp : CmpLays P g cb enc k cf blk off d0.size w0) (R : RowK enc k w0 blk off d0) (hn : n = d0.size) (hsz : n < 4611686018427387904) :
    ∀ N, SymSpec P k enc cf g cb blk off cap n w0 N := by
  intro N
  induction N with
  | zero => intro ai mi bi p A B q W _ _ _ hN hA0 _ _ _ _ _; omega
  | succ N ih =>
    intro ai mi bi p A B q W hai hmi hbi hN hA0 hB0 hA hB hl S
    subst hai hmi hbi
    have hds : (p ++ (A ++ (B ++ q))).toArray.size = d0.size := by rw [← hn, ← hl]; simp
    have hlen : p.length + A.length + B.length ≤ n := by rw [← hl]; simp; omega
    by_cases h1 : A.length = 1
    · obtain ⟨x, rfl⟩ := List.length_eq_one_iff.1 h1
      refine (sym_one T F17 enc cf g cb blk off cap p.length (p.length + [x].length) (p.length + [x].length + B.length) n d0 (p ++ ([x] ++ (B ++ q))).toArray w0 W eg hcmp R hds hn S rfl (by omega) hlen hsz).mono ?_
      rintro e w' ⟨rfl, i, i1, i2, HI, HJ, S2⟩
      obtain ⟨Y, y1, y2, y3⟩ := one_ok hO p x B q hB p.length (p.length + [x].length) (p.length + [x].length + B.length) i rfl rfl rfl i1 i2 HI HJ
      exact ⟨rfl, Y, y1, y2, by rw [← y3]; exact S2⟩
    · by_cases h2 : B.length = 1
      · obtain ⟨x, rfl⟩ := List.length_eq_one_iff.1 h2
        refine (sym_last T F17 enc cf g cb blk off cap p.length (p.length + A.length) (p.length + A.length + [x].length) n d0 (p ++ (A ++ ([x] ++ q))).toArray w0 W eg hcmp R hds hn S (by omega) rfl hlen hsz).mono ?_
        rintro e w' ⟨rfl, i, i1, i2, HI, HJ, S2⟩
        obtain ⟨Y, y1, y2, y3⟩ := last_ok hO p A x q hA p.length (p.length + A.length) i rfl rfl i1 i2 HI HJ
        exact ⟨rfl, Y, y1, y2, by rw [← y3]; exact S2⟩
      · exact sym_gen T F17 F18 F19 enc cf hO g cb blk off cap n d0 w0 W eg hcmp R hn hsz N ih p A B q p.length (p.length + A.length) (p.length + A.length + B.length) rfl rfl rfl hN (by omega) (by omega) hA hB hl S

/-- What is asked of 'cmp', asked at a later world of the sort's. -/
theorem cmp_on {k : Nat} {enc : α → List Value} {cf : α → α → Int} {g : Nat} {cb : Array Value} {blk off size : Nat} {w0 W : World} {d : Array α} (hC : CmpLays P g cb enc k cf blk off size w0) (S : SWK enc k w0 blk off d W) (hblk : blk < w0.heap.size) (hs : d.size = size) : CmpLays P g cb enc k cf blk off size W := by
  intro m os dk hdk x y
  obtain ⟨n', os', e⟩ := S.on hblk m dk os (by omega)
  rw [e]
  exact hC n' os' dk hdk x y

/-- insertionSort over an array, from a world of the sort's to a world of the sort's. -/
def InsArr (P : Program) (k : Nat) (enc : α → List Value) (cf : α → α → Int) (g : Nat) (cb : Array Value) (blk off cap n : Nat) (w0 : World) : Prop :=
  ∀ (ai bi : Int) (a b : Nat) (d : Array α) (W : World), ai = (a : Nat) → bi = (b : Nat) → a ≤ b → b ≤ n → d.size = n → SWK enc k w0 blk off d W →
    Calls P 16 #[.slice (some ⟨blk, off, none⟩) n cap, .int .i64 ai, .int .i64 bi, .func (.func g) #[] cb] W fun e w' => e = .returned (.tuple #[]) ∧
      ∃ d' : Array α, d'.size = n ∧ (∀ i, i < a ∨ b ≤ i → d'[i]! = d[i]!) ∧ SortedIn (ltOf cf) a b d' ∧ SWK enc k w0 blk off d' w'
end Go.Proofs.Ybulkxfo
