import PyProof.Rows.All
import Wide.All
import OpenK.AllK
import Wide.FinOn
import PySem.Challenge.RW_fh5009_01
open PySem PySem.W PyProof.Rows
set_option Elab.async false
set_option maxRecDepth 100000
set_option maxHeartbeats 8000000

-- FhHead
namespace Mine
open_top hd for PySem.Challenge.rw_fh5009_01
end Mine

-- FhSort
theorem Mine.anewFhSort : True := by (w_top off); exact trivial
namespace Mine
open PySem PyProof.Rows

/-- the place of the i-th keyed item, by pos -/
def PS (pos : Keyed → Nat) (xs : Array Keyed) (i : Nat) : Nat := match xs[i]? with
  | some p => pos p
  | none => 0
theorem PS_congr {pos : Keyed → Nat} {xs ys : Array Keyed} {i j : Nat} (h : xs[i]? = ys[j]?) : PS pos xs i = PS pos ys j := by unfold PS; rw [h]
def LexLt (pos : Keyed → Nat) (xs : Array Keyed) (i j : Nat) : Prop := K xs i < K xs j ∨ (K xs i = K xs j ∧ PS pos xs i < PS pos xs j)
/-- sorted, stable, made of the first x items; the rest as it was -/
structure Stb (pos : Keyed → Nat) (a₀ xs : Array Keyed) (x : Nat) : Prop where
  lex : ∀ i j, i < j → j < x → LexLt pos xs i j
  low : ∀ i, i < x → PS pos xs i < x
  rest : ∀ i, x ≤ i → xs[i]? = a₀[i]?
def PosOk (pos : Keyed → Nat) (a₀ : Array Keyed) : Prop := ∀ (i : Nat) p, a₀[i]? = some p → pos p = i
theorem PosOk.at {pos : Keyed → Nat} {a₀ : Array Keyed} (h : PosOk pos a₀) {i : Nat} (hi : i < a₀.size) : PS pos a₀ i = i := by
  unfold PS
  rw [getElem?_pos a₀ i hi]
  exact h i _ (getElem?_pos a₀ i hi)
theorem Stb.at {pos : Keyed → Nat} {a₀ xs : Array Keyed} {x i : Nat} (S : Stb pos a₀ xs x) (hp : PosOk pos a₀) (hx : x ≤ i) (hi : i < a₀.size) : PS pos xs i = i := by
  rw [PS_congr (S.rest i hx)]; exact hp.at hi
theorem Stb.sorted {pos : Keyed → Nat} {a₀ xs : Array Keyed} {x : Nat} (S : Stb pos a₀ xs x) : SortedTo xs x := fun i j hij hj => by
  by_cases h : i = j
  · subst h; exact Int.le_refl _
  · rcases S.lex i j (by omega) hj with h1 | h1 <;> omega
theorem Stb.extend {pos : Keyed → Nat} {a₀ xs : Array Keyed} {a n : Nat} (S : Stb pos a₀ xs a) (hp : PosOk pos a₀) (hs : SortedTo xs n) (han : a ≤ n) (hn : n ≤ a₀.size) : Stb pos a₀ xs n := by
  refine ⟨fun i j hij hj => ?_, fun i hi => ?_, fun i hi => S.rest i (by omega)⟩
  · by_cases hja : j < a
    · exact S.lex i j hij hja
    · have hK := hs i j (by omega) hj
      have hj' := S.at hp (i := j) (by omega) (by omega)
      have hi' : PS pos xs i < j := by
        by_cases hia : i < a
        · have := S.low i hia; omega
        · rw [S.at hp (by omega) (by omega)]; exact hij
      unfold LexLt
      omega
  · by_cases hia : i < a
    · have := S.low i hia; omega
    · rw [S.at hp (by omega) (by omega)]; exact hi
theorem Stb.zero {pos : Keyed → Nat} (a₀ : Array Keyed) : Stb pos a₀ a₀ 0 := ⟨fun i j _ h => by omega, fun i h => by omega, fun _ _ => rfl⟩

/-- falling, the last run (neq + 1 equal keys) still in the old order, the equal runs ahead of it turned -/
structure Dsc (pos : Keyed → Nat) (a₀ xs : Array Keyed) (x neq : Nat) : Prop where
  head : ∀ i j, i < j → j + (neq + 1) < x → LexLt pos xs j i
  over : ∀ i j, i + (neq + 1) < x → x ≤ j + (neq + 1) → j < x → K xs j < K xs i
  run : ∀ i j, x ≤ i + (neq + 1) → i < j → j < x → K xs i = K xs j ∧ PS pos xs i < PS pos xs j
  low : ∀ i, i < x → PS pos xs i < x
  rest : ∀ i, x ≤ i → xs[i]? = a₀[i]?
  fit : neq + 1 ≤ x

theorem PS_mirror {pos : Keyed → Nat} {xs : Array Keyed} {i j : Nat} (hj : j ≤ xs.size) (k : Nat) :
    PS pos (mirror xs i j ((j - i) / 2)) k = if i ≤ k ∧ k < j then PS pos xs (i + j - 1 - k) else PS pos xs k := by
  have e := getElem?_mirror_all (i := i) hj k
  by_cases h1 : i ≤ k ∧ k < j
  · rw [if_pos h1] at e ⊢; exact PS_congr e
  · rw [if_neg h1] at e ⊢; exact PS_congr e

/-- all equal runs turned -/
structure Fall (pos : Keyed → Nat) (a₀ xs : Array Keyed) (x : Nat) : Prop where
  lex : ∀ i j, i < j → j < x → LexLt pos xs j i
  low : ∀ i, i < x → PS pos xs i < x
  rest : ∀ i, x ≤ i → xs[i]? = a₀[i]?

theorem Dsc.fall0 {pos : Keyed → Nat} {a₀ xs : Array Keyed} {x : Nat} (D : Dsc pos a₀ xs x 0) : Fall pos a₀ xs x := by
  refine ⟨fun i j hij hj => ?_, D.low, D.rest⟩
  by_cases h : j + 1 < x
  · exact D.head i j hij h
  · exact .inl (D.over i j (by omega) (by omega) hj)

theorem Dsc.turned {pos : Keyed → Nat} {a₀ xs : Array Keyed} {x neq : Nat} (D : Dsc pos a₀ xs x neq) (hx : x ≤ xs.size) :
    Fall pos a₀ (mirror xs (x - (neq + 1)) x ((x - (x - (neq + 1))) / 2)) x := by
  have hf := D.fit
  refine ⟨fun i j hij hj => ?_, fun i hi => ?_, fun i hi => ?_⟩
  · unfold LexLt
    rw [K_mirror hx, K_mirror hx, PS_mirror hx, PS_mirror hx]
    by_cases h1 : x - (neq + 1) ≤ j
    · by_cases h2 : x - (neq + 1) ≤ i
      · rw [if_pos ⟨h1, hj⟩, if_pos ⟨h2, by omega⟩, if_pos ⟨h1, hj⟩, if_pos ⟨h2, by omega⟩]
        exact .inr (D.run _ _ (by omega) (by omega) (by omega))
      · rw [if_pos ⟨h1, hj⟩, if_neg (by omega), if_pos ⟨h1, hj⟩, if_neg (by omega)]
        exact .inl (D.over _ _ (by omega) (by omega) (by omega))
    · rw [if_neg (by omega), if_neg (by omega), if_neg (by omega), if_neg (by omega)]
      exact D.head i j hij (by omega)
  · rw [PS_mirror hx]
    split
    · exact D.low _ (by omega)
    · exact D.low _ hi
  · rw [getElem?_mirror_all hx, if_neg (by omega)]
    exact D.rest i hi

theorem Fall.mirror {pos : Keyed → Nat} {a₀ xs : Array Keyed} {x : Nat} (D : Fall pos a₀ xs x) (hx : x ≤ xs.size) : Stb pos a₀ (mirror xs 0 x ((x - 0) / 2)) x := by
  refine ⟨fun i j hij hj => ?_, fun i hi => ?_, fun i hi => ?_⟩
  · unfold LexLt
    rw [K_mirror hx, K_mirror hx, PS_mirror hx, PS_mirror hx, if_pos (by omega), if_pos (by omega), if_pos (by omega), if_pos (by omega)]
    exact D.lex _ _ (by omega) (by omega)
  · rw [PS_mirror hx, if_pos (by omega)]
    exact D.low _ (by omega)
  · rw [getElem?_mirror_all hx, if_neg (by omega)]
    exact D.rest i hi

/-- one more, strictly below all -/
theorem Fall.step {pos : Keyed → Nat} {a₀ xs : Array Keyed} {x : Nat} (D : Fall pos a₀ xs x) (hp : PosOk pos a₀) (hx : x < a₀.size) (h1 : 1 ≤ x) (hlt : K xs x < K xs (x - 1)) : Dsc pos a₀ xs (x + 1) 0 := by
  have hle : ∀ i, i < x → K xs (x - 1) ≤ K xs i := fun i hi => by
    by_cases h : i = x - 1
    · subst h; exact Int.le_refl _
    · rcases D.lex i (x - 1) (by omega) (by omega) with q | q <;> omega
  refine ⟨fun i j hij hj => D.lex i j hij (by omega), fun i j hi hj hjx => ?_, fun i j hi hij hj => by omega, fun i hi => ?_, fun i hi => D.rest i (by omega), by omega⟩
  · have : j = x := by omega
    subst this
    have := hle i (by omega)
    omega
  · by_cases h : i < x
    · have := D.low i h; omega
    · have : i = x := by omega
      subst this
      rw [PS_congr (D.rest i (Nat.le_refl _)), hp.at hx]; omega

/-- one more, equal to the last -/
theorem Dsc.same {pos : Keyed → Nat} {a₀ xs : Array Keyed} {x neq : Nat} (D : Dsc pos a₀ xs x neq) (hp : PosOk pos a₀) (hx : x < a₀.size) (he : K xs x = K xs (x - 1)) : Dsc pos a₀ xs (x + 1) (neq + 1) := by
  have hf := D.fit
  have hPx : PS pos xs x = x := by rw [PS_congr (D.rest x (Nat.le_refl _))]; exact hp.at hx
  refine ⟨fun i j hij hj => D.head i j hij (by omega), fun i j hi hj hjx => ?_, fun i j hi hij hj => ?_, fun i hi => ?_, fun i hi => D.rest i (by omega), by omega⟩
  · by_cases h : j = x
    · subst h; rw [he]; exact D.over i (j - 1) (by omega) (by omega) (by omega)
    · exact D.over i j (by omega) (by omega) (by omega)
  · by_cases h : j = x
    · subst h
      rw [hPx, he]
      refine ⟨?_, D.low i (by omega)⟩
      by_cases h2 : i = j - 1
      · rw [← h2]
      · exact (D.run i (j - 1) (by omega) (by omega) (by omega)).1
    · exact D.run i j (by omega) hij (by omega)
  · by_cases h : i = x
    · subst h; rw [hPx]; omega
    · have := D.low i (by omega); omega

section
variable {prog : Program} {w : World} {A : Around} {E : Value → Shared → Prop} {s : Shared} {a₀ : Array Keyed} {pos : Keyed → Nat}

theorem stb_tail3 {st : SortSt} {n nrem : Nat} {Q : Option Nat → SortSt → Prop} (hp : PosOk pos a₀) (h0 : IntKeys a₀) (hn : nrem ≤ a₀.size) (h1 : 1 ≤ n) (hnn : n ≤ nrem) (hB : SBase a₀ st)
    (hs : Fall pos a₀ (arrOf st) n) (h : ∀ m st', SBase a₀ st' → 1 ≤ m → m ≤ nrem → Stb pos a₀ (arrOf st') m → Q (some m) st') :
    wpS (model prog w) A E s (tail3 n nrem) Q st := by
  unfold tail3
  have hsz : n ≤ (arrOf st).size := by rw [hB.size]; omega
  refine wpS_bind (wpS_reverse ?_)
  have hB' : SBase a₀ (setArr st (mirror (arrOf st) 0 n ((n - 0) / 2))) := hB.setArr (mirror_perm _ _ _ _)
  have hS : Stb pos a₀ (mirror (arrOf st) 0 n ((n - 0) / 2)) n := hs.mirror hsz
  refine wpS_bind (wpS_ascLoop h0 hn h1 hnn hB' hS.sorted fun m hm1 hm2 hsm _ => wpS_pure (h m _ hB' (by omega) hm2 ?_))
  exact hS.extend hp hsm hm1 (by omega)

theorem stb_descLoop {st : SortSt} {n nrem : Nat} {Q : DescSt → SortSt → Prop} (hp : PosOk pos a₀) (h0 : IntKeys a₀) (hn : nrem ≤ a₀.size) (h1 : 1 ≤ n) (hnn : n ≤ nrem) (hB : SBase a₀ st)
    (hs : Dsc pos a₀ (arrOf st) n 0)
    (h : ∀ m neq st', SBase a₀ st' → n ≤ m → m ≤ nrem → Dsc pos a₀ (arrOf st') m neq → Q (none, m, neq) st') :
    wpS (model prog w) A E s (descLoop n nrem) Q st := by
  unfold descLoop
  refine wpS_forRange (I := fun x c st' => ∃ neq, c = (none, x, neq) ∧ SBase a₀ st' ∧ Dsc pos a₀ (arrOf st') x neq) ?step ?fin ⟨0, rfl, hB, hs⟩
  case fin =>
    rintro c st' ⟨neq, rfl, hB', hD⟩
    rw [show max n nrem = nrem by omega] at hD ⊢
    exact h nrem neq st' hB' hnn (Nat.le_refl _) hD
  case step =>
    rintro x c st' hax hxn ⟨neq, rfl, hB', hD⟩
    dsimp only
    have hsz : x ≤ (arrOf st').size := by rw [hB'.size]; omega
    refine wpS_bind (wpS_ltK hB' h0 (by omega) (by omega) ?_)
    by_cases hless : K (arrOf st') x < K (arrOf st') (x - 1)
    · simp only [hless, decide_true, if_true]
      by_cases hneq : neq > 0
      · rw [if_pos hneq]
        refine wpS_bind (wpS_reverse (wpS_pure ⟨0, rfl, hB'.setArr (mirror_perm _ _ _ _), ?_⟩))
        refine (hD.turned hsz).step hp (by omega) (by omega) ?_
        have hf := hD.fit
        rw [K_mirror hsz, K_mirror hsz, if_neg (by omega), if_pos (by omega)]
        have e : K (arrOf st') (x - (neq + 1) + x - 1 - (x - 1)) = K (arrOf st') (x - 1) := (hD.run _ _ (by omega) (by omega) (by omega)).1
        rw [e]; exact hless
      · rw [if_neg hneq]
        obtain rfl : neq = 0 := by omega
        exact wpS_pure ⟨0, rfl, hB', hD.fall0.step hp (by omega) (by omega) hless⟩
    · simp only [hless, decide_false, Bool.false_eq_true, if_false]
      refine wpS_bind (wpS_ltK hB' h0 (by omega) (by omega) ?_)
      by_cases hlarger : K (arrOf st') (x - 1) < K (arrOf st') x
      · simp only [hlarger, decide_true, if_true]
        exact wpS_pure (h x neq st' hB' hax (by omega) hD)
      · simp only [hlarger, decide_false, Bool.false_eq_true, if_false]
        exact wpS_pure ⟨neq + 1, rfl, hB', hD.same hp (by omega) (by omega)⟩

theorem stb_descPart {st : SortSt} {n nrem : Nat} {Q : Option Nat → SortSt → Prop} (hp : PosOk pos a₀) (h0 : IntKeys a₀) (hn : nrem ≤ a₀.size) (hnn : n + 1 ≤ nrem) (hB : SBase a₀ st)
    (hs : Dsc pos a₀ (arrOf st) (n + 1) 0) (h : ∀ m st', SBase a₀ st' → 1 ≤ m → m ≤ nrem → Stb pos a₀ (arrOf st') m → Q (some m) st') :
    wpS (model prog w) A E s (descPart n nrem) Q st := by
  unfold descPart
  refine wpS_bind (wpS_lift (wpAny_rule ⟨rfl, ?_⟩))
  refine wpS_bind (stb_descLoop hp h0 hn (by omega) hnn hB hs fun m neq st' hB' hm1 hm2 hD => ?_)
  dsimp only
  have hsz : m ≤ (arrOf st').size := by rw [hB'.size]; omega
  by_cases hneq : neq > 0
  · rw [if_pos hneq]
    exact wpS_bind (wpS_reverse (stb_tail3 hp h0 hn (by omega) hm2 (hB'.setArr (mirror_perm _ _ _ _)) (hD.turned hsz) h))
  · rw [if_neg hneq]
    obtain rfl : neq = 0 := by omega
    exact stb_tail3 hp h0 hn (by omega) hm2 hB' hD.fall0 h

theorem stb_countRun {st : SortSt} {nrem : Nat} {Q : Option Nat → SortSt → Prop} (hp : PosOk pos a₀) (h0 : IntKeys a₀) (hn : nrem ≤ a₀.size) (h1 : 1 ≤ nrem) (hB : SBase a₀ st) (ha : arrOf st = a₀)
    (h : ∀ m st', SBase a₀ st' → 1 ≤ m → m ≤ nrem → Stb pos a₀ (arrOf st') m → Q (some m) st') :
    wpS (model prog w) A E s (countRun' 0 nrem) Q st := by
  rw [countRun0_eq]
  have S0 : Stb pos a₀ (arrOf st) 0 := by rw [ha]; exact Stb.zero a₀
  refine wpS_bind (wpS_ascLoop h0 hn (Nat.le_refl 1) h1 hB (fun i j hij hj => by have : i = j := (by omega); subst this; exact Int.le_refl _) fun n hn1 hn2 hsn hor => ?_)
  dsimp only
  have Sn : Stb pos a₀ (arrOf st) n := S0.extend hp hsn (by omega) (by omega)
  by_cases hnn : n = nrem
  · rw [if_pos (by simpa using hnn)]
    exact wpS_pure (h n st hB hn1 hn2 Sn)
  · rw [if_neg (by simpa using hnn)]
    have hlt : K (arrOf st) n < K (arrOf st) (n - 1) := hor.resolve_left hnn
    by_cases hgt : n > 1
    · rw [if_pos hgt]
      refine wpS_bind (wpS_ltK hB h0 (by omega) (by omega) ?_)
      by_cases hrose : K (arrOf st) 0 < K (arrOf st) (n - 1)
      · simp only [hrose, decide_true, if_true]
        exact wpS_pure (h n st hB hn1 hn2 Sn)
      · simp only [hrose, decide_false, Bool.false_eq_true, if_false]
        have hsz : n ≤ (arrOf st).size := by rw [hB.size]; omega
        have hall : ∀ k, k < n → K (arrOf st) k = K (arrOf st) (n - 1) := by
          intro k hk
          have a1 := hsn 0 k (by omega) hk
          have a2 := hsn k (n - 1) (by omega) (by omega)
          omega
        refine wpS_bind (wpS_reverse (stb_descPart hp h0 hn (by omega) (hB.setArr (mirror_perm _ _ _ _)) ?_ h))
        have hF : Fall pos a₀ (mirror (arrOf st) 0 n ((n - 0) / 2)) n := by
          refine ⟨fun i j hij hj => ?_, fun i hi => ?_, fun i hi => ?_⟩
          · unfold LexLt
            rw [K_mirror hsz, K_mirror hsz, PS_mirror hsz, PS_mirror hsz, if_pos (by omega), if_pos (by omega), if_pos (by omega), if_pos (by omega)]
            have e1 := hall (0 + n - 1 - i) (by omega)
            have e2 := hall (0 + n - 1 - j) (by omega)
            rcases Sn.lex (0 + n - 1 - j) (0 + n - 1 - i) (by omega) (by omega) with q | q
            · omega
            · exact .inr ⟨by omega, q.2⟩
          · rw [PS_mirror hsz, if_pos (by omega)]; exact Sn.low _ (by omega)
          · rw [getElem?_mirror_all hsz, if_neg (by omega)]; exact Sn.rest i hi
        refine hF.step hp (by omega) (by omega) ?_
        rw [K_mirror hsz, K_mirror hsz, if_neg (by omega), if_pos (by omega), hall (0 + n - 1 - (n - 1)) (by omega)]
        exact hlt
    · rw [if_neg hgt]
      have hn1' : n = 1 := by omega
      subst hn1'
      refine stb_descPart hp h0 hn (by omega) hB ?_ h
      exact (Fall.mk (fun i j hij hj => by omega) Sn.low Sn.rest : Fall pos a₀ (arrOf st) 1).step hp (by omega) (by omega) hlt

theorem PS_bubble {xs : Array Keyed} {src d : Nat} (hs : src < xs.size) (hd : d ≤ src) (k : Nat) :
    PS pos (bubble xs src d) k = if k = src - d then PS pos xs src else if src - d < k ∧ k ≤ src then PS pos xs (k - 1) else PS pos xs k := by
  have e := getElem?_bubble hs d hd k
  by_cases h1 : k = src - d
  · rw [if_pos h1] at e ⊢; exact PS_congr e
  · rw [if_neg h1] at e ⊢
    by_cases h2 : src - d < k ∧ k ≤ src
    · rw [if_pos h2] at e ⊢; exact PS_congr e
    · rw [if_neg h2] at e ⊢; exact PS_congr e

theorem stb_insert {xs : Array Keyed} {k l : Nat} (hp : PosOk pos a₀) (S : Stb pos a₀ xs k) (hks : k < xs.size) (hk : k < a₀.size) (hlk : l ≤ k)
    (hlo : ∀ i, i < l → K xs i ≤ K xs k) (hhi : ∀ i, l ≤ i → i < k → K xs k < K xs i) : Stb pos a₀ (bubble xs k (k - l)) (k + 1) := by
  have hPk : PS pos xs k = k := S.at hp (Nat.le_refl _) hk
  have el : k - (k - l) = l := by omega
  refine ⟨fun i j hij hj => ?_, fun i hi => ?_, fun i hi => ?_⟩
  · unfold LexLt
    rw [K_bubble hks (by omega), K_bubble hks (by omega), PS_bubble hks (by omega), PS_bubble hks (by omega), el]
    by_cases hil : i = l
    · have hjl : ¬ j = l := by omega
      rw [if_pos hil, if_pos hil, if_neg hjl, if_neg hjl, if_pos (by omega), if_pos (by omega)]
      exact .inl (hhi (j - 1) (by omega) (by omega))
    · rw [if_neg hil, if_neg hil]
      by_cases hjl : j = l
      · rw [if_pos hjl, if_pos hjl, if_neg (by omega), if_neg (by omega), hPk]
        have a1 := hlo i (by omega)
        have a2 := S.low i (by omega)
        omega
      · rw [if_neg hjl, if_neg hjl]
        by_cases h1 : l < i
        · have ci : l < i ∧ i ≤ k := ⟨h1, by omega⟩
          have cj : l < j ∧ j ≤ k := ⟨by omega, by omega⟩
          rw [if_pos ci, if_pos ci, if_pos cj, if_pos cj]
          exact S.lex _ _ (by omega) (by omega)
        · have ci : ¬ (l < i ∧ i ≤ k) := by omega
          rw [if_neg ci, if_neg ci]
          by_cases h2 : l < j
          · have cj : l < j ∧ j ≤ k := ⟨by omega, by omega⟩
            rw [if_pos cj, if_pos cj]
            exact S.lex _ _ (by omega) (by omega)
          · have cj : ¬ (l < j ∧ j ≤ k) := by omega
            rw [if_neg cj, if_neg cj]
            exact S.lex _ _ (by omega) (by omega)
  · rw [PS_bubble hks (by omega), el]
    split
    · rw [hPk]; omega
    · split
      · have := S.low (i - 1) (by omega); omega
      · have := S.low i (by omega); omega
  · rw [getElem?_bubble hks _ (by omega), el, if_neg (by omega), if_neg (by omega)]
    exact S.rest i (by omega)

theorem stb_binarySort {st : SortSt} {n ok : Nat} {Q : Bool → SortSt → Prop} (hp : PosOk pos a₀) (h0 : IntKeys a₀) (hn : n ≤ a₀.size) (hok : ok ≤ n) (h1 : 1 ≤ ok) (hB : SBase a₀ st) (hs : Stb pos a₀ (arrOf st) ok)
    (h : ∀ st', SBase a₀ st' → Stb pos a₀ (arrOf st') n → Q true st') : wpS (model prog w) A E s (binarySort' 0 n ok) Q st := by
  rw [binarySort'_eq]
  simp only [Nat.zero_add]
  refine wpS_bind (wpS_mono (wpS_forRange (I := fun k c st' => c = (none, ()) ∧ SBase a₀ st' ∧ Stb pos a₀ (arrOf st') (min k n))
    (Q := fun c st' => c = (none, ()) ∧ SBase a₀ st' ∧ Stb pos a₀ (arrOf st') n) ?step ?fin ?init) ?post)
  case post =>
    rintro c st' ⟨rfl, hB', hs'⟩
    exact wpS_pure (h st' hB' hs')
  case init =>
    refine ⟨rfl, hB, ?_⟩
    rw [show min (max ok 1) n = ok by omega]; exact hs
  case fin =>
    rintro c st' ⟨hc, hB', hs'⟩
    refine ⟨hc, hB', ?_⟩
    rwa [show min (max (max ok 1) n) n = n by omega] at hs'
  case step =>
    rintro k c st' hak hkn ⟨rfl, hB', hs'⟩
    rw [show min k n = k by omega] at hs'
    have hk : k < a₀.size := by omega
    have hso := hs'.sorted
    refine wpS_bind (wpS_mono (wpS_forRange (I := fun x c st'' => st'' = st' ∧ ∃ l r, c = (none, l, r) ∧ l ≤ r ∧ r ≤ k ∧ r - l ≤ k - x ∧
        (∀ i, i < l → K (arrOf st') i ≤ K (arrOf st') k) ∧ (∀ i, r ≤ i → i < k → K (arrOf st') k < K (arrOf st') i))
      (Q := fun c st'' => st'' = st' ∧ ∃ l r, c = (none, l, r) ∧ l ≤ k ∧
        (∀ i, i < l → K (arrOf st') i ≤ K (arrOf st') k) ∧ (∀ i, l ≤ i → i < k → K (arrOf st') k < K (arrOf st') i)) ?istep ?ifin ?iinit) ?ipost)
    case iinit => exact ⟨rfl, 0, k, rfl, by omega, by omega, by omega, fun i hi => by omega, fun i h1 h2 => by omega⟩
    case ifin =>
      rintro c st'' ⟨rfl, l, r, rfl, hlr, hrk, hm, hlo, hhi⟩
      have : l = r := by omega
      subst this
      exact ⟨rfl, l, l, rfl, hrk, hlo, hhi⟩
    case istep =>
      rintro x c st'' _ hxk ⟨rfl, l, r, rfl, hlr, hrk, hm, hlo, hhi⟩
      dsimp only
      by_cases hge : l ≥ r
      · rw [if_pos hge]
        have : l = r := by omega
        subst this
        exact wpS_pure ⟨rfl, l, l, rfl, hrk, hlo, hhi⟩
      · rw [if_neg hge]
        refine wpS_bind (wpS_ltK hB' h0 hk (by omega) ?_)
        by_cases hless : K (arrOf st'') k < K (arrOf st'') ((l + r) / 2)
        · simp only [hless, decide_true, if_true]
          refine wpS_pure ⟨rfl, l, (l + r) / 2, rfl, by omega, by omega, by omega, hlo, fun i h1 h2 => ?_⟩
          exact Int.lt_of_lt_of_le hless (hso _ _ h1 h2)
        · simp only [hless, decide_false, Bool.false_eq_true, if_false]
          refine wpS_pure ⟨rfl, (l + r) / 2 + 1, r, rfl, by omega, by omega, by omega, fun i h1 => ?_, hhi⟩
          exact Int.le_trans (hso i ((l + r) / 2) (by omega) (by omega)) (Int.not_lt.mp hless)
    case ipost =>
      rintro c st'' ⟨rfl, l, r, rfl, hlk, hlo, hhi⟩
      show wpS _ _ _ _ (do moveDown' k l; pure (ForInStep.yield (none, ()))) _ _
      rw [moveDown'_eq]
      refine wpS_bind (wpS_modify (wpS_pure ⟨rfl, hB'.setArr (bubble_perm _ _ _), ?_⟩))
      rw [show min (k + 1) n = k + 1 by omega]
      exact stb_insert hp hs' (by rw [hB'.size]; exact hk) hk hlk hlo hhi

theorem stb_sortRuns {st : SortSt} {Q : Unit → SortSt → Prop} (hp : PosOk pos a₀) (h0 : IntKeys a₀) (hB : SBase a₀ st) (ha : arrOf st = a₀) (h2 : 2 ≤ a₀.size) (h64 : a₀.size < 64)
    (h : ∀ st', (arrOf st').Perm a₀ → failedOf st' = none → Stb pos a₀ (arrOf st') a₀.size → Q () st') : wpS (model prog w) A E s sortRuns' Q st := by
  rw [sortRuns'_eq]
  refine wpS_bind (wpS_get ?_)
  dsimp only
  have hmr : minRun' a₀.size a₀.size 0 = a₀.size := by
    obtain ⟨f, hf⟩ : ∃ f, a₀.size = f + 1 := ⟨a₀.size - 1, by omega⟩
    have : minRun' (f + 1) a₀.size 0 = a₀.size := by rw [minRun'_succ, if_pos h64]; rfl
    rwa [← hf] at this
  simp only [hB.size, hmr]
  refine wpS_bind (wpS_mono (wpS_forRange
    (I := fun x c st' => (x = 0 ∧ c = (none, 0) ∧ st' = st) ∨ (1 ≤ x ∧ c = (none, a₀.size) ∧ ((arrOf st').Perm a₀ ∧ failedOf st' = none ∧ pendingOf st' = #[(0, a₀.size, 0)] ∧ Stb pos a₀ (arrOf st') a₀.size)))
    (Q := fun c st' => c = (none, a₀.size) ∧ ((arrOf st').Perm a₀ ∧ failedOf st' = none ∧ pendingOf st' = #[(0, a₀.size, 0)] ∧ Stb pos a₀ (arrOf st') a₀.size)) ?step ?fin (.inl ⟨rfl, rfl, rfl⟩)) ?post)
  case fin =>
    rintro c st' (⟨hx, _, _⟩ | ⟨_, hc, hD⟩)
    · omega
    · exact ⟨hc, hD⟩
  case step =>
    have dn : ∀ st1 : SortSt, SBase a₀ st1 → Stb pos a₀ (arrOf st1) a₀.size → (arrOf (setPending st1 ((pendingOf st1).push (0, a₀.size, 0)))).Perm a₀ ∧ failedOf (setPending st1 ((pendingOf st1).push (0, a₀.size, 0))) = none ∧
        pendingOf (setPending st1 ((pendingOf st1).push (0, a₀.size, 0))) = #[(0, a₀.size, 0)] ∧ Stb pos a₀ (arrOf (setPending st1 ((pendingOf st1).push (0, a₀.size, 0)))) a₀.size := fun st1 hB1 hs1 =>
      ⟨hB1.perm, hB1.failed, by show (pendingOf st1).push _ = _; rw [hB1.pend]; rfl, hs1⟩
    rintro x c st' _ hx (⟨rfl, rfl, rfl⟩ | ⟨hx1, rfl, hD⟩)
    · dsimp only
      rw [if_neg (by omega)]
      simp only [Nat.sub_zero, Nat.min_self, Nat.zero_add]
      refine wpS_bind (stb_countRun hp h0 (Nat.le_refl _) (by omega) hB ha fun m st2 hB2 hm1 hm2 hs2 => ?_)
      dsimp only
      by_cases hlt : m < a₀.size
      · rw [if_pos hlt]
        refine wpS_bind (wpS_lift (wpAny_rule ⟨rfl, ?_⟩))
        refine wpS_bind (stb_binarySort hp h0 (Nat.le_refl _) hm2 hm1 hB2 hs2 fun st3 hB3 hs3 => ?_)
        simp only [Bool.not_true, Bool.false_eq_true, if_false]
        refine wpS_bind (wpS_get ?_)
        have hb : (pendingOf st3).back? = none := by rw [hB3.pend]; rfl
        rw [hb]
        dsimp only
        exact wpS_bind (wpS_modify (wpS_pure (.inr ⟨by omega, rfl, dn st3 hB3 hs3⟩)))
      · rw [if_neg hlt]
        have hm : m = a₀.size := by omega
        subst hm
        refine wpS_bind (wpS_get ?_)
        have hb : (pendingOf st2).back? = none := by rw [hB2.pend]; rfl
        rw [hb]
        dsimp only
        exact wpS_bind (wpS_modify (wpS_pure (.inr ⟨by omega, rfl, dn st2 hB2 hs2⟩)))
    · dsimp only
      rw [if_pos (Nat.le_refl _)]
      exact wpS_pure ⟨rfl, hD⟩
  case post =>
    rintro c st' ⟨rfl, hD⟩
    dsimp only
    refine wpS_bind (wpS_mono (wpS_forRange (I := fun _ c st'' => st'' = st' ∧ c = (none, ())) (Q := fun c st'' => st'' = st' ∧ c = (none, ())) ?_ (fun _ _ hh => hh) ⟨rfl, rfl⟩) ?_)
    · rintro x c st'' _ _ ⟨rfl, rfl⟩
      refine wpS_bind (wpS_get ?_)
      rw [if_pos (by rw [hD.2.2.1]; exact Nat.le_refl 1)]
      exact wpS_pure ⟨rfl, rfl⟩
    · rintro c st'' ⟨rfl, rfl⟩
      exact wpS_pure (h _ hD.1 hD.2.1 hD.2.2.2)
end
end Mine

-- FhSort2
theorem Mine.anewFhSort2 : True := by (w_top off); exact trivial
namespace Mine
open PySem PySem.W PyProof.Rows PySem.Calls

def SortedBy (cnt : Int → Int) (ks₀ ks : List Int) : Prop :=
  ks.Perm ks₀ ∧ ks.Pairwise fun x y => cnt x < cnt y ∨ (cnt x = cnt y ∧ ks₀.idxOf x < ks₀.idxOf y)

/-- all of H stands in H' -/
def Old (H H' : Heap) : Prop := ∀ b o, H.get? b = some o → H'.get? b = some o
theorem Old.refl (H : Heap) : Old H H := fun _ _ e => e
theorem Old.trans {H H' H'' : Heap} (x : Old H H') (y : Old H' H'') : Old H H'' := fun b o e => y b o (x b o e)
theorem Old.push (H : Heap) (o : Obj) : Old H (H.push o) := fun _ _ e => Heap.get?_push_of_some _ e
theorem Old.update {H H' : Heap} {a : Addr} {f : Obj → Obj} (x : Old H H') (ha : H.get? a = none) : Old H (H'.update a f) := fun b o e =>
  (Heap.get?_update_ne _ _ _ _ (fun q => by rw [q, ha] at e; cases e)).trans (x b o e)
theorem Old.fresh {H H' : Heap} (x : Old H H') : H.get? H'.objs.size = none := by
  cases e : H.get? H'.objs.size with
  | none => rfl
  | some o => exact absurd (Heap.lt_size (x _ _ e)) (Nat.lt_irrefl _)
theorem get_none_of_ge {H : Heap} {a : Addr} (h : H.objs.size ≤ a) : H.get? a = none := by
  cases e : H.get? a with
  | none => rfl
  | some o => exact absurd (Heap.lt_size e) (Nat.not_lt.mpr h)

theorem srt_out {keys : Array Value} {vs : List Value} {ks₀ : List Int} {cnt : Int → Int} (hv : IntsAre vs ks₀) (hk : IntsAre keys.toList (ks₀.map cnt)) (hnd : ks₀.Nodup)
    {xs : Array Keyed} (hp : xs.Perm (keys.zip vs.toArray)) (hs : Stb (fun p => ks₀.idxOf (numOf p.2)) (keys.zip vs.toArray) xs xs.size) :
    ∃ ks, IntsAre (xs.map (·.2)).toList ks ∧ SortedBy cnt ks₀ ks := by
  have hl : xs.toList.Perm (keys.toList.zip vs) := by rw [← ksk_zip]; exact Array.perm_iff_toList_perm.mp hp
  have hrel : ∀ p, p ∈ keys.toList.zip vs → numOf p.1 = cnt (numOf p.2) ∧ ∃ n t, p.2 = .int n t := by
    have gen : ∀ (kl vl : List Value) (ns : List Int), IntsAre vl ns → IntsAre kl (ns.map cnt) → ∀ p, p ∈ kl.zip vl → numOf p.1 = cnt (numOf p.2) ∧ ∃ n t, p.2 = .int n t := by
      intro kl vl ns h1
      induction h1 generalizing kl with
      | nil => intro _ p hp; simp at hp
      | cons n t r ih =>
        intro h2 p hp
        cases h2 with
        | cons m t' r2 =>
          rw [List.zip_cons_cons] at hp
          rcases List.mem_cons.mp hp with rfl | hp
          · exact ⟨rfl, n, t, rfl⟩
          · exact ih _ r2 p hp
    exact gen _ _ _ hv hk
  have hmem : ∀ p, p ∈ xs.toList → numOf p.1 = cnt (numOf p.2) ∧ ∃ n t, p.2 = .int n t := fun p hp' => hrel p (hl.mem_iff.mp hp')
  refine ⟨xs.toList.map (fun p => numOf p.2), ?_, ?_, ?_⟩
  · have e : (xs.map (·.2)).toList = xs.toList.map (·.2) := Array.toList_map ..
    rw [e]
    have h1 := intsAre_map (xs.toList.map (·.2)) (by
      intro v hv
      obtain ⟨p, hp', rfl⟩ := List.mem_map.mp hv
      exact (hmem p hp').2)
    rwa [List.map_map] at h1
  · have h1 := hl.map (fun p => numOf p.2)
    have e2 : (keys.toList.zip vs).map (fun p => numOf p.2) = ks₀ := by
      have hlen : vs.length ≤ keys.toList.length := by
        have a1 := hv.length
        have a2 := hk.length
        rw [List.length_map] at a2
        omega
      have : (keys.toList.zip vs).map (fun p => numOf p.2) = ((keys.toList.zip vs).map Prod.snd).map numOf := by rw [List.map_map]; rfl
      rw [this, List.map_snd_zip hlen, hv.nums]
    rwa [e2] at h1
  · rw [List.pairwise_iff_getElem]
    intro i j hi hj hij
    have hi' : i < xs.size := by simpa using hi
    have hj' : j < xs.size := by simpa using hj
    have q := hs.lex i j hij hj'
    unfold LexLt at q
    rw [K_eq hi', K_eq hj'] at q
    have pi : PS (fun p => ks₀.idxOf (numOf p.2)) xs i = ks₀.idxOf (numOf xs[i].2) := by unfold PS; rw [getElem?_pos xs i hi']
    have pj : PS (fun p => ks₀.idxOf (numOf p.2)) xs j = ks₀.idxOf (numOf xs[j].2) := by unfold PS; rw [getElem?_pos xs j hj']
    rw [pi, pj, (hmem xs[i] (by simp)).1, (hmem xs[j] (by simp)).1] at q
    simpa using q

theorem idxOf_nodup {l : List Int} (h : l.Nodup) {i : Nat} {k : Int} (e : l[i]? = some k) : l.idxOf k = i := by
  obtain ⟨hi, rfl⟩ := List.getElem?_eq_some_iff.mp e
  exact h.idxOf_getElem i hi

theorem srt_pos {keys : Array Value} {vs : List Value} {ks₀ : List Int} (hv : IntsAre vs ks₀) (hlen : keys.size = vs.length) (hnd : ks₀.Nodup) : PosOk (fun p => ks₀.idxOf (numOf p.2)) (keys.zip vs.toArray) := by
  intro i p hp
  rw [← Array.getElem?_toList, ksk_zip] at hp
  have hp2 : vs[i]? = some p.2 := by
    rw [List.getElem?_zip_eq_some] at hp
    exact hp.2
  have : ks₀[i]? = some (numOf p.2) := by rw [← hv.nums, List.getElem?_map, hp2]; rfl
  exact idxOf_nodup hnd this

section
variable {prog : Program} {w : World} {A : Around} {E : Value → Shared → Prop} {s : Shared} {a kS : Addr} {vs : List Value} {ks₀ : List Int} {keys : Array Value} {cnt : Int → Int} {e e1 : Nat} {P : PySem.Fin → Shared → Prop} {H : Heap}

theorem srt_tail {st : SortSt} (ho : Old H s.heap) (haH : H.get? a = none) (hkH : H.get? kS = none) (hka : kS ≠ a) (nk : s.heap.get? kS = some (seqObj "list" keys e)) (na : s.heap.get? a = some (seqObj "list" #[] e1))
    (hv : IntsAre vs ks₀) (hk : IntsAre keys.toList (ks₀.map cnt)) (hnd : ks₀.Nodup) (h64 : vs.length < 64) (hp : (arrOf st).Perm (keys.zip vs.toArray)) (hs : Stb (fun p => ks₀.idxOf (numOf p.2)) (keys.zip vs.toArray) (arrOf st) (arrOf st).size) (hfl : failedOf st = none)
    (h : ∀ h' tk out c ks, Old H h' → h'.get? a = some (seqObj "list" out c) → IntsAre out.toList ks → SortedBy cnt ks₀ ks → P (.done (.ret .none)) { s with heap := h', toks := tk }) :
    wpAny (model prog w) A (ksk_tail a false e1 (.ref kS) st) P E s := by
  have hsz : keys.size = vs.length := by
    have h1 := hk.length
    rw [Array.length_toList, List.length_map] at h1
    rw [h1, hv.length]
  have hsz2 : (arrOf st).size = vs.length := by rw [hp.size_eq, Array.size_zip, hsz, List.size_toArray, Nat.min_self]
  obtain ⟨ks, hI, hS⟩ := srt_out hv hk hnd hp hs
  have na1 : (s.heap.update kS (Obj.mapSeq fun _ => (#[] : Array Value))).get? a = some (seqObj "list" #[] e1) := (Heap.get?_update_ne _ _ _ _ hka.symm).trans na
  obtain ⟨c2, hc2⟩ : ∃ c2, ((s.heap.update kS (Obj.mapSeq fun _ => (#[] : Array Value))).update a (Obj.mapSeq fun _ => (arrOf st).map (·.2))).get? a = some (seqObj "list" ((arrOf st).map (·.2)) c2) :=
    ⟨_, get?_update_seq na1 fun _ => (arrOf st).map (·.2)⟩
  unfold ksk_tail
  try dsimp only
  refine wpAny_bind (listUpdate_at nk rfl ?_ (by rw [hsz, sizeLine_eq]; omega) (Nat.zero_le _))
  refine wpAny_bind (wpAny_letGo ?_)
  refine wpAny_bind (seqEpoch_at na1 rfl ?_)
  simp only [Bool.false_eq_true, if_false]
  refine wpAny_bind (listUpdate_at na1 rfl ?_ (Nat.zero_le _) (by rw [Array.size_map, hsz2, sizeLine_eq]; omega))
  rw [hfl]
  simp only [bne_self_eq_false, Bool.false_eq_true, if_false]
  exact wpAny_pure (h _ _ _ c2 ks ((ho.update hkH).update haH) hc2 hI hS)

theorem srt_end (ho : Old H s.heap) (haH : H.get? a = none) (hkH : H.get? kS = none) (hka : kS ≠ a) (nk : s.heap.get? kS = some (seqObj "list" keys e)) (na : s.heap.get? a = some (seqObj "list" #[] e1))
    (hv : IntsAre vs ks₀) (hk : IntsAre keys.toList (ks₀.map cnt)) (hnd : ks₀.Nodup) (h64 : vs.length < 64)
    (h : ∀ h' tk out c ks, Old H h' → h'.get? a = some (seqObj "list" out c) → IntsAre out.toList ks → SortedBy cnt ks₀ ks → P (.done (.ret .none)) { s with heap := h', toks := tk }) :
    wpAny (model prog w) A (ksk_end a false vs.toArray e1 (.ref kS) keys) P E s := by
  have hsz : keys.size = vs.length := by
    have h1 := hk.length
    rw [Array.length_toList, List.length_map] at h1
    rw [h1, hv.length]
  have hzs : (keys.zip vs.toArray).size = vs.length := by rw [Array.size_zip, hsz, List.size_toArray, Nat.min_self]
  have hpos := srt_pos (keys := keys) hv hsz hnd
  unfold ksk_end
  simp only [Bool.false_eq_true, if_false]
  by_cases h2 : vs.toArray.size < 2
  · rw [if_pos h2, if_pos h2]
    refine wpAny_bind (wpAny_pure ?_)
    rw [StateT.run_pure]
    refine wpAny_bind (wpAny_pure ?_)
    try dsimp only
    refine srt_tail (st := SortSt.mk' general' (keys.zip vs.toArray) #[] 7 none) ho haH hkH hka nk na hv hk hnd h64 (Array.Perm.refl _) ?_ rfl h
    show Stb _ _ (keys.zip vs.toArray) (keys.zip vs.toArray).size
    rw [List.size_toArray] at h2
    refine (Stb.zero _).extend hpos (fun i j hij hj => ?_) (Nat.zero_le _) (Nat.le_refl _)
    have : i = j := by omega
    subst this
    exact Int.le_refl _
  · rw [if_neg h2, if_neg h2]
    rw [List.size_toArray] at h2
    rw [ksk_kind hk (by rw [hsz]; omega)]
    refine wpAny_bind (wpAny_pure ?_)
    refine wpAny_bind (wpAny_mono (stb_sortRuns (a₀ := keys.zip vs.toArray) (st := SortSt.mk' oneType' (keys.zip vs.toArray) #[] 7 none)
      (Q := fun _ st' => (arrOf st').Perm (keys.zip vs.toArray) ∧ failedOf st' = none ∧ Stb (fun p => ks₀.idxOf (numOf p.2)) (keys.zip vs.toArray) (arrOf st') (keys.zip vs.toArray).size)
      hpos (ksk_intKeys hk) ⟨Array.Perm.refl _, rfl, rfl, rfl⟩ rfl (by rw [hzs]; omega) (by rw [hzs]; exact h64) fun st' a1 a2 a3 => ⟨a1, a2, a3⟩) ?_ fun _ _ e => e)
    rintro ⟨⟨⟩, st'⟩ s' ⟨rfl, hp, hf, hs⟩
    try dsimp only
    exact srt_tail ho haH hkH hka nk na hv hk hnd h64 hp (by rw [hp.size_eq]; exact hs) hf h

theorem srt_rest {f : Value} (ho : Old H s.heap) (haH : H.get? a = none) (hkH : H.get? kS = none) (hka : kS ≠ a) (nk : s.heap.get? kS = some (seqObj "list" #[] 0)) (na : s.heap.get? a = some (seqObj "list" #[] e1))
    (hv : IntsAre vs ks₀) (hnd : ks₀.Nodup) (h64 : vs.length < 64)
    (turn : ∀ k t, k ∈ ks₀ → ∀ h tk, Old H h → wpAny (model prog w) A (call f [.int k t]) (fun r s'' => (∃ t, r = .int (cnt k) t) ∧ Keeps { s with heap := h, toks := tk } s'') (fun _ _ => False) { s with heap := h, toks := tk })
    (h : ∀ h' tk out c ks, Old H h' → h'.get? a = some (seqObj "list" out c) → IntsAre out.toList ks → SortedBy cnt ks₀ ks → P (.done (.ret .none)) { s with heap := h', toks := tk }) :
    wpAny (model prog w) A (ksk_rest a f false vs.toArray e1 (.ref kS)) P E s := by
  have hlen := hv.length
  unfold ksk_rest
  refine wpAny_bind (wpAny_rule ?_)
  rw [List.forIn_toArray]
  refine wpAny_bind (ksk_fold (fun i s' => ∃ h' tk kA e, s' = { s with heap := h', toks := tk } ∧ Old H h' ∧ h'.get? kS = some (seqObj "list" kA e) ∧ h'.get? a = some (seqObj "list" #[] e1) ∧ IntsAre kA.toList ((ks₀.take i).map cnt)) vs 0 s
    ⟨s.heap, s.toks, #[], 0, rfl, ho, nk, na, by simpa using IntsAre.nil⟩ ?step ?done)
  case step =>
    rintro j x s' hx ⟨h', tk, kA, e, rfl, ho', nk', na', hk⟩
    simp only [Nat.zero_add] at hk ⊢
    have hj : j < vs.length := (List.getElem?_eq_some_iff.mp hx).1
    obtain ⟨k, hkj⟩ : ∃ k, ks₀[j]? = some k := ⟨_, List.getElem?_eq_getElem (by omega)⟩
    obtain ⟨t, ht⟩ := hv.get j k hkj
    rw [ht] at hx
    cases hx
    have hz : kA.size ≤ vs.length := by
      have h1 := hk.length
      rw [Array.length_toList, List.length_map, List.length_take] at h1
      omega
    refine wpAny_bind (wpAny_attempt (wpAny_mono (turn k t (List.mem_of_getElem? hkj) h' tk ho') (fun v s'' he => ?_) fun _ _ hF => hF.elim))
    obtain ⟨⟨t2, rfl⟩, g, tk2, rfl, hg⟩ := he
    try dsimp only
    have nk2 : g.get? kS = some (seqObj "list" kA e) := hg _ _ nk'
    have na2 : g.get? a = some (seqObj "list" #[] e1) := hg _ _ na'
    obtain ⟨c2, hc2⟩ : ∃ c2, (g.update kS (Obj.mapSeq (·.push (.int (cnt k) t2)))).get? kS = some (seqObj "list" (kA.push (.int (cnt k) t2)) c2) := ⟨_, get?_update_seq nk2 (·.push (.int (cnt k) t2))⟩
    have ek : (ks₀.take (j + 1)).map cnt = (ks₀.take j).map cnt ++ [cnt k] := by rw [List.take_add_one, hkj]; simp
    have ea : (kA.push (Value.int (cnt k) t2)).toList = kA.toList ++ [Value.int (cnt k) t2] := by simp
    refine wpAny_bind (listUpdate_at nk2 rfl ?_ (by rw [sizeLine_eq]; omega) (Nat.le_trans (Nat.le_of_eq (Array.size_push ..)) (by rw [sizeLine_eq]; omega)))
    refine wpAny_pure ⟨rfl, _, _, kA.push (.int (cnt k) t2), c2, rfl, (ho'.trans hg).update hkH, hc2, (Heap.get?_update_ne _ _ _ _ hka.symm).trans na2, by rw [ea, ek]; exact ksk_snoc hk⟩
  case done =>
    rintro s' ⟨h', tk, kA, e, rfl, ho', nk', na', hk⟩
    have hk' : IntsAre kA.toList (ks₀.map cnt) := by
      have e3 : ks₀.take (0 + vs.length) = ks₀ := List.take_of_length_le (by omega)
      rw [e3] at hk
      exact hk
    try dsimp only
    refine wpAny_bind (listItems_at nk' rfl ?_)
    exact srt_end ho' haH hkH hka nk' na' hv hk' hnd h64 fun h3 tk3 out c ks F3 N3 k3 => h h3 tk3 out c ks F3 N3 k3

theorem srt_sort {f : Value} {n : Nat} (hHo : Old H s.heap) (haH : H.get? a = none) (ho : s.heap.get? a = some (seqObj "list" vs.toArray n))
    (hv : IntsAre vs ks₀) (hnd : ks₀.Nodup) (h64 : vs.length < 64)
    (turn : ∀ k t, k ∈ ks₀ → ∀ h tk, Old H h → wpAny (model prog w) A (call f [.int k t]) (fun r s'' => (∃ t, r = .int (cnt k) t) ∧ Keeps { s with heap := h, toks := tk } s'') (fun _ _ => False) { s with heap := h, toks := tk })
    (h : ∀ h' tk out c ks, Old H h' → h'.get? a = some (seqObj "list" out c) → IntsAre out.toList ks → SortedBy cnt ks₀ ks → P (.done (.ret .none)) { s with heap := h', toks := tk }) :
    wpAny (model prog w) A (ksk_tree a f false) P E s := by
  have ha : a < s.heap.objs.size := Heap.lt_size ho
  obtain ⟨e1, ho1⟩ : ∃ e1, (s.heap.update a (Obj.mapSeq fun _ => (#[] : Array Value))).get? a = some (seqObj "list" #[] e1) := ⟨_, get?_update_seq ho fun _ => #[]⟩
  have hkS : ((s.heap.update a (Obj.mapSeq fun _ => (#[] : Array Value))).push (seqObj "tuple" vs.toArray 0)).objs.size = s.heap.objs.size + 1 := by rw [size_push', Heap.size_update]
  unfold ksk_tree
  refine wpAny_bind (listItems_at ho rfl ?_)
  refine wpAny_bind (listUpdate_at ho rfl ?_ (by rw [List.size_toArray, sizeLine_eq]; omega) (Nat.zero_le _))
  refine wpAny_bind (seqEpoch_at ho1 rfl ?_)
  refine wpAny_bind (wpAny_newTuple ?_ (by show vs.length ≤ _; rw [sizeLine_eq]; omega))
  refine wpAny_bind (wpAny_newList ?_ (Nat.zero_le _))
  refine wpAny_holding ?_
  exact srt_rest (s := { s with heap := ((s.heap.update a (Obj.mapSeq fun _ => (#[] : Array Value))).push (seqObj "tuple" vs.toArray 0)).push (seqObj "list" #[] 0) }) (kS := ((s.heap.update a (Obj.mapSeq fun _ => (#[] : Array Value))).push (seqObj "tuple" vs.toArray 0)).objs.size)
    (((hHo.update haH).trans (Old.push _ _)).trans (Old.push _ _)) haH ((hHo.update haH).trans (Old.push _ _)).fresh (by rw [hkS]; exact Nat.ne_of_gt (Nat.lt_succ_of_lt ha))
    (Heap.get?_push_size _ rfl) (Heap.get?_push_of_some _ (Heap.get?_push_of_some _ ho1)) hv hnd h64 turn h

/-- sorted(d, key=q) of a dict keyed by ints: stable -/
theorem srt_dict {d q : Addr} {kvs : List (Int × Value)} {Q : Value → Shared → Prop} (hD : s.heap.DictOf (PySem.intKind prog w) d kvs) (lo : (d == sysModules) = false) (hh : A.handled = none) (h64 : kvs.length < 64)
    (turn : ∀ k t, k ∈ kvs.map (·.1) → ∀ h tk, Old s.heap h → wpAny (model prog w) A.in1.in1 (call (.ref q) [.int k t]) (fun r s'' => (∃ t, r = .int (cnt k) t) ∧ Keeps { s with heap := h, toks := tk } s'') (fun _ _ => False) { s with heap := h, toks := tk })
    (h : ∀ D h' tk ks out c, Old s.heap h' → s.heap.get? D = none → h'.get? D = some (seqObj "list" out c) → IntsAre out.toList ks → SortedBy cnt (kvs.map (·.1)) ks → Q (.ref D) { s with heap := h', toks := tk }) :
    wpAny (model prog w) A (call (.builtin "sorted") [.ref d] [(Str.ofString "key", .ref q)]) Q E s := by
  obtain ⟨ep, hat⟩ := hD.dictAt
  have hnd := hat.nodup
  refine call_function_entry_kw kind_sorted plain_sorted entry_sorted (ksk_s1 _ _) ?_
  unfold Builtin.«sorted»
  refine wpAny_bind (m := checkCount "sorted" 1 1 _) (wpAny_pure ?_)
  refine wpAny_bind (kdu_collect (A := A.in1) (kdl_dict (knd := PySem.intKind prog w) (kvs := kvs) (ep := ep) lo) hh hat (by rw [sizeLine_eq]; omega) fun h₁ tk acc hk hacc => ?_)
  have hl : acc.toList.length = kvs.length := by rw [Array.length_toList]; exact hacc.1
  have hv : IntsAre acc.toList (kvs.map (·.1)) := by
    have e1 : ∀ (j : Nat) (v : Value), acc.toList[j]? = some v → ∃ k x t, kvs[j]? = some (k, x) ∧ v = Value.int k t := fun j v e => by
      obtain ⟨k, x, hx, hi⟩ := hacc.2 j v (by rw [← Array.getElem?_toList]; exact e)
      obtain ⟨t, rfl⟩ := Value.isInt_shape hi
      exact ⟨k, x, t, hx, rfl⟩
    have gen : ∀ (vl : List Value) (kl : List (Int × Value)), vl.length = kl.length → (∀ (j : Nat) (v : Value), vl[j]? = some v → ∃ k x t, kl[j]? = some (k, x) ∧ v = Value.int k t) → IntsAre vl (kl.map (·.1)) := by
      intro vl
      induction vl with
      | nil => intro kl hl _; cases kl with
        | nil => exact .nil
        | cons => simp at hl
      | cons v vl ih =>
        intro kl hl hx
        cases kl with
        | nil => simp at hl
        | cons p kl =>
          obtain ⟨k, x, t, h1, rfl⟩ := hx 0 v rfl
          cases h1
          exact .cons k t (ih kl (by simpa using hl) fun j v e => hx (j + 1) v (by simpa using e))
    exact gen _ _ hl e1
  refine wpAny_bind (wpAny_newList ?_ (by rw [hl, sizeLine_eq]; omega))
  refine wpAny_bind (wpAny_holding (wpAny_call_entry_kw slot_list_sort ⟨_, Heap.get?_push_size _ rfl, rfl⟩ entry_list_sort ?body (ksk_l1 _ _)))
  case body =>
    show wpAny (model prog w) A.in1.in1 (Builtin.«list.sort» ⟨[.ref _], _⟩) _ _ _
    rw [ksk_t1]
    have hfr : s.heap.get? h₁.objs.size = none := Old.fresh hk
    refine srt_sort (H := s.heap) (cnt := cnt) (ks₀ := kvs.map (·.1)) (vs := acc.toList) (n := 0) (fun b o e => Heap.get?_push_of_some _ (hk b o e)) hfr (Heap.get?_push_size _ rfl) hv hnd (by rw [hl]; exact h64) (fun k t hkm h tk ho => turn k t hkm h tk ho) fun h' tk out c ks Ho ha hI hS => ⟨_, rfl, ?_⟩
    exact wpAny_pure ⟨_, rfl, h _ h' tk ks out c Ho hfr ha hI hS⟩
end
end Mine

-- FhPlain
theorem Mine.anewFhPlain : True := by (w_top off); exact trivial
namespace Mine

/-- a key, its value, how often it was asked for -/
abbrev Row := Int × Int × Int
def keysOf (ρ : List Row) : List Int := ρ.map (·.1)
def kv (ρ : List Row) : List (Int × Int) := ρ.map fun r => (r.1, r.2.1)
def kc (ρ : List Row) : List (Int × Int) := ρ.map fun r => (r.1, r.2.2)
def bump (k : Int) (ρ : List Row) : List Row := ρ.map fun r => if r.1 = k then (r.1, r.2.1, r.2.2 + 1) else r
def drop (k : Int) (ρ : List Row) : List Row := ρ.filter fun r => decide (r.1 ≠ k)
def put (k v : Int) (ρ : List Row) : List Row := if k ∈ keysOf ρ then ρ.map (fun r => if r.1 = k then (r.1, v, r.2.2) else r) else ρ ++ [(k, v, 0)]
def dropAll : List Int → List Row → List Row
  | [], ρ => ρ
  | k :: ks, ρ => dropAll ks (drop k ρ)
def minc (ρ : List Row) : Int := ((ρ.map (·.2.2)).min?).getD 0
def firstAt (m : Int) (ρ : List Row) : Nat := ρ.findIdx fun r => decide (r.2.2 = m)
def evict1 (ρ : List Row) : List Row := ρ.eraseIdx (firstAt (minc ρ) ρ)
def evictN : Nat → List Row → List Row
  | 0, ρ => ρ
  | n + 1, ρ => evictN n (evict1 ρ)

theorem keys_kv (ρ : List Row) : (kv ρ).map (·.1) = keysOf ρ := by simp [kv, keysOf]
theorem keys_kc (ρ : List Row) : (kc ρ).map (·.1) = keysOf ρ := by simp [kc, keysOf]
theorem keys_bump (k : Int) (ρ : List Row) : keysOf (bump k ρ) = keysOf ρ := by
  simp only [keysOf, bump, List.map_map]
  refine List.map_congr_left fun r _ => ?_
  show (if r.1 = k then (r.1, r.2.1, r.2.2 + 1) else r).1 = r.1
  split <;> rfl
theorem keys_drop (k : Int) (ρ : List Row) : keysOf (drop k ρ) = (keysOf ρ).filter fun x => decide (x ≠ k) := by
  simp only [keysOf, drop, List.filter_map]; rfl
theorem keys_put (k v : Int) (ρ : List Row) : keysOf (put k v ρ) = if k ∈ keysOf ρ then keysOf ρ else keysOf ρ ++ [k] := by
  unfold put
  split
  · simp only [keysOf, List.map_map]
    refine List.map_congr_left fun r _ => ?_
    show (if r.1 = k then (r.1, v, r.2.2) else r).1 = r.1
    split <;> rfl
  · simp [keysOf]
theorem nodup_drop {k : Int} {ρ : List Row} (h : (keysOf ρ).Nodup) : (keysOf (drop k ρ)).Nodup := by rw [keys_drop]; exact h.filter _
theorem nodup_put {k v : Int} {ρ : List Row} (h : (keysOf ρ).Nodup) : (keysOf (put k v ρ)).Nodup := by
  rw [keys_put]
  split
  · exact h
  · rename_i hk
    rw [List.nodup_append]
    exact ⟨h, by simp, fun a ha b hb => by rw [List.mem_singleton.mp hb]; intro e; exact hk (e ▸ ha)⟩

/-- the row of a key -/
theorem row_of {ρ : List Row} {k : Int} (h : k ∈ keysOf ρ) : ∃ r ∈ ρ, r.1 = k := by
  obtain ⟨r, hr, e⟩ := List.mem_map.mp h
  exact ⟨r, hr, e⟩
theorem row_unique {ρ : List Row} (hn : (keysOf ρ).Nodup) {r q : Row} (hr : r ∈ ρ) (hq : q ∈ ρ) (e : r.1 = q.1) : r = q := by
  induction ρ with
  | nil => cases hr
  | cons x ρ ih =>
    simp only [keysOf, List.map_cons, List.nodup_cons] at hn
    rcases List.mem_cons.mp hr with h1 | h1
    · rcases List.mem_cons.mp hq with h2 | h2
      · rw [h1, h2]
      · exact absurd (List.mem_map.mpr ⟨q, h2, by rw [← e, h1]⟩ : x.1 ∈ ρ.map (·.1)) hn.1
    · rcases List.mem_cons.mp hq with h2 | h2
      · exact absurd (List.mem_map.mpr ⟨r, h1, by rw [e, h2]⟩ : x.1 ∈ ρ.map (·.1)) hn.1
      · exact ih hn.2 h1 h2

theorem drop_of_not_mem {k : Int} {ρ : List Row} (h : k ∉ keysOf ρ) : drop k ρ = ρ := by
  refine List.filter_eq_self.mpr fun r hr => ?_
  simp only [decide_eq_true_eq]
  intro e
  exact h (List.mem_map.mpr ⟨r, hr, e⟩)

theorem eraseIdx_eq_drop {ρ : List Row} (hn : (keysOf ρ).Nodup) {i : Nat} {r : Row} (h : ρ[i]? = some r) : ρ.eraseIdx i = drop r.1 ρ := by
  induction ρ generalizing i with
  | nil => simp at h
  | cons x ρ ih =>
    simp only [keysOf, List.map_cons, List.nodup_cons] at hn
    cases i with
    | zero =>
      simp only [List.getElem?_cons_zero, Option.some.injEq] at h
      subst h
      rw [List.eraseIdx_cons_zero]
      have := drop_of_not_mem (k := x.1) (ρ := ρ) hn.1
      unfold drop at this ⊢
      rw [List.filter_cons_of_neg (by simp), this]
    | succ i =>
      rw [List.getElem?_cons_succ] at h
      rw [List.eraseIdx_cons_succ, ih hn.2 h]
      unfold drop
      rw [List.filter_cons_of_pos]
      simp only [decide_eq_true_eq]
      intro e
      exact hn.1 (e ▸ List.mem_map.mpr ⟨r, List.mem_of_getElem? h, rfl⟩)

theorem length_drop {ρ : List Row} (hn : (keysOf ρ).Nodup) {k : Int} (h : k ∈ keysOf ρ) : (drop k ρ).length + 1 = ρ.length := by
  obtain ⟨r, hr, rfl⟩ := row_of h
  obtain ⟨i, hi⟩ := List.getElem?_of_mem hr
  rw [← eraseIdx_eq_drop hn hi]
  have : i < ρ.length := (List.getElem?_eq_some_iff.mp hi).1
  rw [List.length_eraseIdx_of_lt this]; omega

structure IsMin (m : Int) (ρ : List Row) : Prop where
  mem : ∃ r ∈ ρ, r.2.2 = m
  le : ∀ r ∈ ρ, m ≤ r.2.2
theorem IsMin.eq {m : Int} {ρ : List Row} (h : IsMin m ρ) : minc ρ = m := by
  unfold minc
  obtain ⟨r, hr, e⟩ := h.mem
  have : (ρ.map (·.2.2)).min? = some m := by
    rw [List.min?_eq_some_iff]
    refine ⟨List.mem_map.mpr ⟨r, hr, e⟩, fun b hb => ?_⟩
    obtain ⟨q, hq, rfl⟩ := List.mem_map.mp hb
    exact h.le q hq
  rw [this]; rfl

theorem findIdx_first {α : Type} {l : List α} {p : α → Bool} {i : Nat} {x : α} (h : l[i]? = some x) (hp : p x = true) (hb : ∀ j y, j < i → l[j]? = some y → p y = false) : l.findIdx p = i := by
  have hi : i < l.length := (List.getElem?_eq_some_iff.mp h).1
  have hx : l[i] = x := (List.getElem?_eq_some_iff.mp h).2
  have a1 : l.findIdx p ≤ i := Nat.le_of_not_lt fun q => by
    have := List.not_of_lt_findIdx q
    rw [hx, hp] at this
    exact absurd this (by decide)
  rcases Nat.lt_or_ge (l.findIdx p) i with q | q
  · exfalso
    have hlt : l.findIdx p < l.length := by omega
    have h1 := List.findIdx_getElem (w := hlt)
    have h2 := hb _ l[l.findIdx p] q (List.getElem?_eq_getElem hlt)
    rw [h2] at h1; cases h1
  · omega

theorem idx_ne {x z : Int} {l : List Int} (h : z ≠ x) : (z :: l).idxOf x = l.idxOf x + 1 := by
  rw [List.idxOf_cons]
  have : (z == x) = false := by simpa using h
  rw [this]; rfl
theorem idxOf_filter_lt {l : List Int} {a x y : Int} (hn : l.Nodup) (hx : x ∈ l) (hy : y ∈ l) (hxa : x ≠ a) (hya : y ≠ a) (h : l.idxOf x < l.idxOf y) : (l.filter fun z => decide (z ≠ a)).idxOf x < (l.filter fun z => decide (z ≠ a)).idxOf y := by
  induction l with
  | nil => cases hx
  | cons z l ih =>
    rw [List.nodup_cons] at hn
    by_cases hza : z = a
    · subst hza
      rw [List.filter_cons_of_neg (by simp)]
      rw [idx_ne (Ne.symm hxa), idx_ne (Ne.symm hya)] at h
      refine ih hn.2 ?_ ?_ (by omega)
      · exact (List.mem_cons.mp hx).resolve_left hxa
      · exact (List.mem_cons.mp hy).resolve_left hya
    · rw [List.filter_cons_of_pos (by simpa using hza)]
      by_cases hxz : x = z
      · subst hxz
        rw [List.idxOf_cons_self]
        by_cases hyx : x = y
        · subst hyx; omega
        · rw [idx_ne hyx]; omega
      · by_cases hyz : y = z
        · subst hyz
          rw [List.idxOf_cons_self] at h; omega
        · rw [idx_ne (Ne.symm hxz), idx_ne (Ne.symm hyz)] at h ⊢
          have := ih hn.2 ((List.mem_cons.mp hx).resolve_left hxz) ((List.mem_cons.mp hy).resolve_left hyz) (by omega)
          omega

theorem evict_step {cnt : Int → Int} {ρ : List Row} {k₁ : Int} {ks : List Int} (hn : (keysOf ρ).Nodup) (hc : ∀ r ∈ ρ, cnt r.1 = r.2.2) (hS : SortedBy cnt (keysOf ρ) (k₁ :: ks)) :
    k₁ ∈ keysOf ρ ∧ evict1 ρ = drop k₁ ρ ∧ SortedBy cnt (keysOf (drop k₁ ρ)) ks := by
  obtain ⟨hp, hw⟩ := hS
  rw [List.pairwise_cons] at hw
  have hk : k₁ ∈ keysOf ρ := hp.mem_iff.mp (List.mem_cons_self ..)
  obtain ⟨r, hr, e⟩ := row_of hk
  have hle : ∀ q ∈ ρ, q.1 ≠ k₁ → cnt k₁ < cnt q.1 ∨ (cnt k₁ = cnt q.1 ∧ (keysOf ρ).idxOf k₁ < (keysOf ρ).idxOf q.1) := fun q hq hne => by
    have : q.1 ∈ k₁ :: ks := hp.mem_iff.mpr (List.mem_map.mpr ⟨q, hq, rfl⟩)
    exact hw.1 _ ((List.mem_cons.mp this).resolve_left hne)
  have hcr : cnt k₁ = r.2.2 := by rw [← e]; exact hc r hr
  have hmin : IsMin r.2.2 ρ := by
    refine ⟨⟨r, hr, rfl⟩, fun q hq => ?_⟩
    by_cases hq1 : q.1 = k₁
    · rw [row_unique hn hq hr (hq1.trans e.symm)]; exact Int.le_refl _
    · have := hle q hq hq1
      rw [hc q hq] at this
      omega
  obtain ⟨i, hi⟩ := List.getElem?_of_mem hr
  have hidx : (keysOf ρ).idxOf k₁ = i := idxOf_nodup hn (by rw [keysOf, List.getElem?_map, hi]; simp [e])
  have hfirst : firstAt (minc ρ) ρ = i := by
    unfold firstAt
    rw [hmin.eq]
    refine findIdx_first hi (by simp) fun j q hj hq => ?_
    simp only [decide_eq_false_iff_not]
    intro e2
    have hqm := List.mem_of_getElem? hq
    have hidq : (keysOf ρ).idxOf q.1 = j := idxOf_nodup hn (by rw [keysOf, List.getElem?_map, hq]; rfl)
    by_cases hq1 : q.1 = k₁
    · rw [hq1, hidx] at hidq; omega
    · have := hle q hqm hq1
      rw [hc q hqm] at this
      omega
  refine ⟨hk, ?_, ?_, ?_⟩
  · unfold evict1
    rw [hfirst, eraseIdx_eq_drop hn hi, e]
  · rw [keys_drop]
    have h1 := hp.filter (fun x => decide (x ≠ k₁))
    rw [List.filter_cons_of_neg (by simp)] at h1
    have h2 : (ks.filter fun x => decide (x ≠ k₁)) = ks := by
      have hnd : (k₁ :: ks).Nodup := hp.nodup_iff.mpr hn
      rw [List.nodup_cons] at hnd
      refine List.filter_eq_self.mpr fun x hx => ?_
      simp only [decide_eq_true_eq]
      intro q; exact hnd.1 (q ▸ hx)
    rwa [h2] at h1
  · have hnd : (k₁ :: ks).Nodup := hp.nodup_iff.mpr hn
    rw [List.nodup_cons] at hnd
    refine hw.2.imp_of_mem fun {x y} hx hy h => ?_
    rcases h with h | ⟨h1, h2⟩
    · exact .inl h
    · refine .inr ⟨h1, ?_⟩
      rw [keys_drop]
      exact idxOf_filter_lt hn (hp.mem_iff.mp (List.mem_cons_of_mem _ hx)) (hp.mem_iff.mp (List.mem_cons_of_mem _ hy)) (fun q => hnd.1 (q ▸ hx)) (fun q => hnd.1 (q ▸ hy)) h2

theorem dropAll_eq_evictN {cnt : Int → Int} : ∀ (n : Nat) {ρ : List Row} {ks : List Int}, (keysOf ρ).Nodup → (∀ r ∈ ρ, cnt r.1 = r.2.2) → SortedBy cnt (keysOf ρ) ks → n ≤ ρ.length → dropAll (ks.take n) ρ = evictN n ρ
  | 0, _, _, _, _, _, _ => by rw [List.take_zero]; rfl
  | n + 1, ρ, [], hn, hc, hS, hl => by
    have := hS.1.length_eq
    simp [keysOf] at this
    omega
  | n + 1, ρ, k :: ks, hn, hc, hS, hl => by
    obtain ⟨hk, e, hS'⟩ := evict_step hn hc hS
    have hl' := length_drop hn hk
    rw [List.take_succ_cons]
    show dropAll (ks.take n) (drop k ρ) = evictN n (evict1 ρ)
    rw [e]
    exact dropAll_eq_evictN n (nodup_drop hn) (fun r hr => hc r (List.mem_filter.mp hr).1) hS' (by omega)

/-- what evict1 takes away -/
theorem evict1_is {ρ : List Row} (hn : (keysOf ρ).Nodup) (h : ρ ≠ []) : ∃ k ∈ keysOf ρ, evict1 ρ = drop k ρ ∧ ∃ r, ρ[firstAt (minc ρ) ρ]? = some r ∧ r.1 = k := by
  obtain ⟨m, hm⟩ : ∃ m, (ρ.map (·.2.2)).min? = some m := by
    cases e : (ρ.map (·.2.2)).min? with
    | none => rw [List.min?_eq_none_iff] at e; simp at e; exact absurd e h
    | some m => exact ⟨m, rfl⟩
  have hmin : minc ρ = m := by unfold minc; rw [hm]; rfl
  have hmem : m ∈ ρ.map (·.2.2) := (List.min?_eq_some_iff.mp hm).1
  obtain ⟨r, hr, e⟩ := List.mem_map.mp hmem
  have hlt : firstAt (minc ρ) ρ < ρ.length := by
    unfold firstAt
    rw [hmin]
    exact List.findIdx_lt_length_of_exists ⟨r, hr, by simpa using e⟩
  refine ⟨(ρ[firstAt (minc ρ) ρ]).1, List.mem_map.mpr ⟨_, List.getElem_mem hlt, rfl⟩, ?_, _, List.getElem?_eq_getElem hlt, rfl⟩
  exact eraseIdx_eq_drop hn (List.getElem?_eq_getElem hlt)
theorem nodup_evict1 {ρ : List Row} (hn : (keysOf ρ).Nodup) : (keysOf (evict1 ρ)).Nodup := by
  by_cases h : ρ = []
  · subst h; exact List.nodup_nil
  · obtain ⟨k, _, e, _⟩ := evict1_is hn h
    rw [e]; exact nodup_drop hn
theorem length_evict1 {ρ : List Row} (hn : (keysOf ρ).Nodup) (h : ρ ≠ []) : (evict1 ρ).length + 1 = ρ.length := by
  obtain ⟨k, hk, e, _⟩ := evict1_is hn h
  rw [e]; exact length_drop hn hk
theorem keys_evict1_sub {ρ : List Row} (hn : (keysOf ρ).Nodup) : ∀ k ∈ keysOf (evict1 ρ), k ∈ keysOf ρ := by
  intro k hk
  by_cases h : ρ = []
  · subst h; exact hk
  · obtain ⟨q, _, e, _⟩ := evict1_is hn h
    rw [e, keys_drop] at hk
    exact (List.mem_filter.mp hk).1
theorem evictN_props : ∀ (n : Nat) {ρ : List Row}, (keysOf ρ).Nodup → n ≤ ρ.length → (keysOf (evictN n ρ)).Nodup ∧ (evictN n ρ).length + n = ρ.length ∧ ∀ k ∈ keysOf (evictN n ρ), k ∈ keysOf ρ
  | 0, _, hn, _ => ⟨hn, rfl, fun _ h => h⟩
  | n + 1, ρ, hn, hl => by
    have h : ρ ≠ [] := fun e => by subst e; simp at hl
    have h1 := length_evict1 hn h
    obtain ⟨a, b, c⟩ := evictN_props n (nodup_evict1 hn) (by omega)
    exact ⟨a, by show (evictN n (evict1 ρ)).length + (n + 1) = _; omega, fun k hk => keys_evict1_sub hn k (c k hk)⟩

-- the dicts' lists
def vint : Value → Option Int
  | .int i _ => some i
  | _ => none
def Vals (kvs : List (Int × Value)) (ps : List (Int × Int)) : Prop := kvs.map (fun p => (p.1, vint p.2)) = ps.map fun q => (q.1, some q.2)
theorem vint_some {v : Value} {i : Int} (h : vint v = some i) : ∃ t, v = .int i t := by
  unfold vint at h
  split at h
  · rename_i j t
    exact ⟨t, by rw [Option.some.inj h]⟩
  · cases h
theorem Vals.keys {kvs : List (Int × Value)} {ps : List (Int × Int)} (h : Vals kvs ps) : kvs.map (·.1) = ps.map (·.1) := by
  have := congrArg (List.map (·.1)) h
  simpa [List.map_map, Function.comp_def] using this
theorem Vals.length {kvs : List (Int × Value)} {ps : List (Int × Int)} (h : Vals kvs ps) : kvs.length = ps.length := by
  have := congrArg List.length h
  simpa using this
theorem Vals.find {kvs : List (Int × Value)} {ps : List (Int × Int)} (h : Vals kvs ps) (k : Int) : (valueAt kvs k).map vint = (ps.find? fun q => decide (q.1 = k)).map fun q => some q.2 := by
  unfold valueAt
  induction kvs generalizing ps with
  | nil =>
    cases ps with
    | nil => rfl
    | cons => simp [Vals] at h
  | cons p kvs ih =>
    cases ps with
    | nil => simp [Vals] at h
    | cons q ps =>
      unfold Vals at h
      rw [List.map_cons, List.map_cons] at h
      obtain ⟨h1, h2⟩ := List.cons.inj h
      obtain ⟨e1, e2⟩ := Prod.mk.inj h1
      have := ih (ps := ps) h2
      rw [List.find?_cons, List.find?_cons, e1]
      by_cases hk : q.1 = k
      · simp only [hk, decide_true]
        simp [e2]
      · simp only [hk, decide_false]
        exact this
theorem Vals.at {kvs : List (Int × Value)} {ps : List (Int × Int)} (h : Vals kvs ps) {k v : Int} (hv : ps.find? (fun q => decide (q.1 = k)) = some (k, v)) : ∃ t, valueAt kvs k = some (.int v t) := by
  have := h.find k
  rw [hv] at this
  cases e : valueAt kvs k with
  | none => rw [e] at this; cases this
  | some x =>
    rw [e] at this
    have h2 : vint x = some v := by simpa using this
    obtain ⟨t, rfl⟩ := vint_some h2
    exact ⟨t, rfl⟩
theorem Vals.none {kvs : List (Int × Value)} {ps : List (Int × Int)} (h : Vals kvs ps) {k : Int} (hk : k ∉ ps.map (·.1)) : valueAt kvs k = none := by
  unfold valueAt
  rw [Option.map_eq_none_iff, List.find?_eq_none]
  intro p hp
  simp only [decide_eq_true_eq]
  intro e
  exact hk (h.keys ▸ List.mem_map.mpr ⟨p, hp, e⟩)
theorem Vals.isSome {kvs : List (Int × Value)} {ps : List (Int × Int)} (h : Vals kvs ps) (k : Int) : (valueAt kvs k).isSome = decide (k ∈ ps.map (·.1)) := by
  unfold valueAt
  rw [Option.isSome_map]
  apply Bool.eq_iff_iff.mpr
  rw [List.find?_isSome, decide_eq_true_iff, ← h.keys, List.mem_map]
  simp
end Mine

-- FhPlain2
theorem Mine.anewFhPlain2 : True := by (w_top off); exact trivial
namespace Mine

def storedI (ps : List (Int × Int)) (k v : Int) : List (Int × Int) :=
  if ps.any (fun q => decide (q.1 = k)) then ps.map (fun q => if q.1 = k then (q.1, v) else q) else ps ++ [(k, v)]

theorem Vals.nil : Vals [] [] := rfl
theorem Vals.cons_iff {p : Int × Value} {q : Int × Int} {kvs : List (Int × Value)} {ps : List (Int × Int)} : Vals (p :: kvs) (q :: ps) ↔ (p.1 = q.1 ∧ vint p.2 = some q.2) ∧ Vals kvs ps := by
  unfold Vals
  rw [List.map_cons, List.map_cons, List.cons.injEq, Prod.mk.injEq]
theorem Vals.split : ∀ {kvs : List (Int × Value)} {ps : List (Int × Int)}, Vals kvs ps → (kvs = [] ∧ ps = []) ∨ ∃ p q kvs' ps', kvs = p :: kvs' ∧ ps = q :: ps' ∧ p.1 = q.1 ∧ vint p.2 = some q.2 ∧ Vals kvs' ps'
  | [], [], _ => .inl ⟨rfl, rfl⟩
  | [], _ :: _, h => by simp [Vals] at h
  | _ :: _, [], h => by simp [Vals] at h
  | p :: kvs, q :: ps, h => by
    obtain ⟨⟨a, b⟩, c⟩ := Vals.cons_iff.mp h
    exact .inr ⟨p, q, kvs, ps, rfl, rfl, a, b, c⟩

theorem Vals.without {k : Int} : ∀ {kvs : List (Int × Value)} {ps : List (Int × Int)}, Vals kvs ps → Vals (without kvs k) (ps.filter fun q => decide (q.1 ≠ k))
  | [], ps, h => by
    rcases h.split with ⟨_, rfl⟩ | ⟨p, q, kvs', ps', e, _⟩
    · exact h
    · cases e
  | p :: kvs, ps, h => by
    rcases h.split with ⟨e, _⟩ | ⟨p', q, kvs', ps', e, rfl, e1, e2, h'⟩
    · cases e
    · cases e
      have ih := Vals.without (k := k) h'
      unfold PySem.without at ih ⊢
      by_cases hk : q.1 = k
      · rw [List.filter_cons_of_neg (by simp [e1, hk]), List.filter_cons_of_neg (by simp [hk])]
        exact ih
      · rw [List.filter_cons_of_pos (by simp [e1, hk]), List.filter_cons_of_pos (by simp [hk])]
        exact Vals.cons_iff.mpr ⟨⟨e1, e2⟩, ih⟩

theorem Vals.any {k : Int} {kvs : List (Int × Value)} {ps : List (Int × Int)} (h : Vals kvs ps) : kvs.any (fun p => decide (p.1 = k)) = ps.any fun q => decide (q.1 = k) := by
  have e := h.keys
  have a1 : kvs.any (fun p => decide (p.1 = k)) = (kvs.map (·.1)).any fun x => decide (x = k) := by rw [List.any_map]; rfl
  have a2 : ps.any (fun p => decide (p.1 = k)) = (ps.map (·.1)).any fun x => decide (x = k) := by rw [List.any_map]; rfl
  rw [a1, a2, e]
theorem Vals.mapset {k v : Int} {t : Tok} : ∀ {kvs : List (Int × Value)} {ps : List (Int × Int)}, Vals kvs ps → Vals (kvs.map fun kv => if kv.1 = k then (kv.1, Value.int v t) else kv) (ps.map fun q => if q.1 = k then (q.1, v) else q)
  | [], ps, h => by
    rcases h.split with ⟨_, rfl⟩ | ⟨p, q, kvs', ps', e, _⟩
    · exact h
    · cases e
  | p :: kvs, ps, h => by
    rcases h.split with ⟨e, _⟩ | ⟨p', q, kvs', ps', e, rfl, e1, e2, h'⟩
    · cases e
    · cases e
      have ih := Vals.mapset (k := k) (v := v) (t := t) h'
      rw [List.map_cons, List.map_cons]
      refine Vals.cons_iff.mpr ⟨?_, ih⟩
      by_cases hk : q.1 = k
      · rw [if_pos (e1.trans hk), if_pos hk]; exact ⟨e1, rfl⟩
      · rw [if_neg (fun x => hk (e1 ▸ x)), if_neg hk]; exact ⟨e1, e2⟩
theorem Vals.snoc {kvs : List (Int × Value)} {ps : List (Int × Int)} (h : Vals kvs ps) (k v : Int) (t : Tok) : Vals (kvs ++ [(k, .int v t)]) (ps ++ [(k, v)]) := by
  unfold Vals at h ⊢
  rw [List.map_append, List.map_append, h]; rfl
theorem Vals.stored {kvs : List (Int × Value)} {ps : List (Int × Int)} (h : Vals kvs ps) (k v : Int) (t : Tok) : Vals (stored kvs k (.int v t)) (storedI ps k v) := by
  unfold PySem.stored storedI
  rw [h.any]
  split
  · exact h.mapset
  · exact h.snoc k v t

theorem kv_drop (k : Int) (ρ : List Row) : (kv ρ).filter (fun q => decide (q.1 ≠ k)) = kv (drop k ρ) := by
  simp only [kv, drop, List.filter_map]; rfl
theorem kc_drop (k : Int) (ρ : List Row) : (kc ρ).filter (fun q => decide (q.1 ≠ k)) = kc (drop k ρ) := by
  simp only [kc, drop, List.filter_map]; rfl
theorem any_kv (k : Int) (ρ : List Row) : (kv ρ).any (fun q => decide (q.1 = k)) = decide (k ∈ keysOf ρ) := by
  rw [Bool.eq_iff_iff, List.any_eq_true, decide_eq_true_iff, ← keys_kv, List.mem_map]
  simp
theorem any_kc (k : Int) (ρ : List Row) : (kc ρ).any (fun q => decide (q.1 = k)) = decide (k ∈ keysOf ρ) := by
  rw [Bool.eq_iff_iff, List.any_eq_true, decide_eq_true_iff, ← keys_kc, List.mem_map]
  simp
theorem stored_kv (k v : Int) (ρ : List Row) : storedI (kv ρ) k v = kv (put k v ρ) := by
  unfold storedI put
  rw [any_kv]
  by_cases hk : k ∈ keysOf ρ
  · rw [if_pos (by simpa using hk), if_pos hk]
    simp only [kv, List.map_map]
    refine List.map_congr_left fun r _ => ?_
    show (if r.1 = k then (r.1, v) else (r.1, r.2.1)) = ((if r.1 = k then (r.1, v, r.2.2) else r).1, (if r.1 = k then (r.1, v, r.2.2) else r).2.1)
    split <;> rfl
  · rw [if_neg (by simpa using hk), if_neg hk]
    simp [kv]
theorem stored_kc_new {k : Int} (v : Int) {ρ : List Row} (hk : k ∉ keysOf ρ) : storedI (kc ρ) k 0 = kc (put k v ρ) := by
  unfold storedI put
  rw [any_kc, if_neg (by simpa using hk), if_neg hk]
  simp [kc]
theorem kc_put_old {k v : Int} {ρ : List Row} (hk : k ∈ keysOf ρ) : kc (put k v ρ) = kc ρ := by
  unfold put
  rw [if_pos hk]
  simp only [kc, List.map_map]
  refine List.map_congr_left fun r _ => ?_
  show ((if r.1 = k then (r.1, v, r.2.2) else r).1, (if r.1 = k then (r.1, v, r.2.2) else r).2.2) = (r.1, r.2.2)
  split <;> rfl
theorem kv_bump (k : Int) (ρ : List Row) : kv (bump k ρ) = kv ρ := by
  simp only [kv, bump, List.map_map]
  refine List.map_congr_left fun r _ => ?_
  show ((if r.1 = k then (r.1, r.2.1, r.2.2 + 1) else r).1, (if r.1 = k then (r.1, r.2.1, r.2.2 + 1) else r).2.1) = (r.1, r.2.1)
  split <;> rfl
theorem stored_kc_bump {k v c : Int} {ρ : List Row} (hn : (keysOf ρ).Nodup) (hr : (k, v, c) ∈ ρ) : storedI (kc ρ) k (c + 1) = kc (bump k ρ) := by
  unfold storedI
  have hk : k ∈ keysOf ρ := List.mem_map.mpr ⟨_, hr, rfl⟩
  rw [any_kc, if_pos (by simpa using hk)]
  simp only [kc, bump, List.map_map]
  refine List.map_congr_left fun r h => ?_
  show (if r.1 = k then (r.1, c + 1) else (r.1, r.2.2)) = ((if r.1 = k then (r.1, r.2.1, r.2.2 + 1) else r).1, (if r.1 = k then (r.1, r.2.1, r.2.2 + 1) else r).2.2)
  by_cases e : r.1 = k
  · rw [if_pos e, if_pos e, row_unique hn h hr e]
  · rw [if_neg e, if_neg e]
theorem find_of_row {α : Type} {ps : List (Int × α)} (hn : (ps.map (·.1)).Nodup) {k : Int} {v : α} (h : (k, v) ∈ ps) : ps.find? (fun q => decide (q.1 = k)) = some (k, v) := by
  induction ps with
  | nil => cases h
  | cons q ps ih =>
    rw [List.map_cons, List.nodup_cons] at hn
    rcases List.mem_cons.mp h with h1 | h1
    · subst h1; rw [List.find?_cons_of_pos (by simp)]
    · rw [List.find?_cons_of_neg]
      · exact ih hn.2 h1
      · simp only [decide_eq_true_eq]
        intro e
        exact hn.1 (e ▸ List.mem_map.mpr ⟨(k, v), h1, rfl⟩)
theorem find_kv {ρ : List Row} (hn : (keysOf ρ).Nodup) {k v c : Int} (h : (k, v, c) ∈ ρ) : (kv ρ).find? (fun q => decide (q.1 = k)) = some (k, v) :=
  find_of_row (by rw [keys_kv]; exact hn) (List.mem_map.mpr ⟨_, h, rfl⟩)
theorem find_kc {ρ : List Row} (hn : (keysOf ρ).Nodup) {k v c : Int} (h : (k, v, c) ∈ ρ) : (kc ρ).find? (fun q => decide (q.1 = k)) = some (k, c) :=
  find_of_row (by rw [keys_kc]; exact hn) (List.mem_map.mpr ⟨_, h, rfl⟩)
theorem length_kv (ρ : List Row) : (kv ρ).length = ρ.length := by simp [kv]
theorem length_kc (ρ : List Row) : (kc ρ).length = ρ.length := by simp [kc]
theorem length_bump (k : Int) (ρ : List Row) : (bump k ρ).length = ρ.length := by simp [bump]
theorem length_put_old {k v : Int} {ρ : List Row} (hk : k ∈ keysOf ρ) : (put k v ρ).length = ρ.length := by unfold put; rw [if_pos hk]; simp
theorem length_put_new {k v : Int} {ρ : List Row} (hk : k ∉ keysOf ρ) : (put k v ρ).length = ρ.length + 1 := by unfold put; rw [if_neg hk]; simp
theorem nodup_bump {k : Int} {ρ : List Row} (h : (keysOf ρ).Nodup) : (keysOf (bump k ρ)).Nodup := by rw [keys_bump]; exact h
end Mine

-- FhBase
theorem Mine.anewFhBase : True := by (w_top off); exact trivial
namespace Mine
open PySem PySem.W PyProof.Rows PySem.Calls

/-- all of H, but what the ledger names, stands in H' -/
def ButOld (news : List (Addr × Obj)) (H H' : Heap) : Prop := ∀ b o, (∀ p ∈ news, p.1 ≠ b) → H.get? b = some o → H'.get? b = some o
theorem Old.but {news : List (Addr × Obj)} {H H' : Heap} (x : Old H H') : ButOld news H H' := fun b o _ e => x b o e
theorem ButOld.trans {news : List (Addr × Obj)} {H H' H'' : Heap} (x : ButOld news H H') (y : ButOld news H' H'') : ButOld news H H'' := fun b o n e => y b o n (x b o n e)
theorem ButOld.mono {news news' : List (Addr × Obj)} {H H' : Heap} (x : ButOld news H H') (s : ∀ p ∈ news, ∃ q ∈ news', q.1 = p.1) : ButOld news' H H' := fun b o n e =>
  x b o (fun p hp q => by obtain ⟨p', hp', e'⟩ := s p hp; exact n p' hp' (e'.trans q)) e

theorem fr_butold {h₀ h h' : Heap} {L : Addr} {m : Str → Option Value} {news : List (Addr × Obj)} (F : Fr h₀ L h m) (N : News h₀ L h news) (x : ButOld news h h') : Fr h₀ L h' m := by
  obtain ⟨oL, es, ep, hL, r⟩ := F.ns
  refine ⟨⟨oL, es, ep, x _ _ (fun p hp => (N p hp).2.1) hL, r⟩, fun b o e => x b o (fun p hp q => ?_) (F.keep b o e), F.above⟩
  have := (N p hp).2.2
  rw [q, e] at this; cases this

section
variable {prog : Program} {w : World} {A₀ A : Around} {s : Shared} {base h₀ : Heap} {outer : List Env} {L : Addr} {m mg mb : Str → Option Value} {env : Env} {news : List (Addr × Obj)} {K : Frag} {p : Program} {loose : List Str} {mean : ExcName → Option Value}
  {R : Result → Shared → Prop} {name qual : Str} {params : Arguments} {body : List Stmt} {scope : Scope} {cl : List (Str × Addr)} {dV kV doc pm cdv ct oc : Value} {an od : Option Addr} {osl : Array (Option Value)} {fo : Obj} {f : Addr} {args : Args} {binds : List (Str × Value)}

theorem callX_S (B : Below A₀ base outer h₀) (F : Fr h₀ L s.heap m) (N : News h₀ L s.heap news) (hlim : h₀.NoLimit) (hA : A.frames = some (env :: outer)) (hf : env.frame = some L) (hke : env.scope.kind = .function)
    (ho : s.heap.get? f = some fo) (hd : fo.data = .func (fnX name qual params body scope cl dV kV doc pm an cdv ct)) (hcd : s.heap.CodeRec cdv qual) (hroom : A.depth < recursionLimit)
    (hbind : BindsTo s (fnX name qual params body scope cl dV kV doc pm an cdv ct) args binds) (hloc : ∀ y ∈ binds, scope.names.lookup y.1 = some .local)
    (h : ∀ g L' h₁, Fr h₀ L g m → Fr g L' h₁ (fun y => binds.reverse.lookup y) → News g L' h₁ news → Below A base (env :: outer) g → h₀.StaysIn g → Old s.heap h₁ → ButOld news s.heap g → L' = s.heap.objs.size →
      wpAny (model prog w) (A.deeper (envX qual scope L' f cdv cl)) (execs body (envX qual scope L' f cdv cl))
        (fun fl s' => R (.ok (.ret (match fl with | .ret v => v | _ => .none))) s')
        (fun e s' => wpAny (model prog w) (A.deeper (envX qual scope L' f cdv cl)) (leaving (envX qual scope L' f cdv cl) e) (fun _ s'' => R (.error e) s'') (fun e' s'' => R (.error e') s'') s')
        { s with heap := h₁, toks := s.toks + binds.length })
    (hcell : ∀ x ∈ scope.names, x.2 ≠ .cell) (hco : scope.isCoroutine = false) (hgen : scope.isGenerator = false) (hk : scope.kind = .function) : codeAny (model prog w) A (.call (.ref f) args) R s := by
  obtain ⟨FG, BG, st, _⟩ := groundX (R := R) B F N hA hf hke
  refine codeAny_call_def (fd := fnX name qual params body scope cl dV kV doc pm an cdv ct) (body := body) (binds := binds) hroom ho hd (hlim.keeps F.keep) hcd rfl hbind hcell hloc (fun h₁ hns hk₁ => ?_) hco hgen hk
  exact h _ s.heap.objs.size h₁ FG ⟨hns, fun b o e => hk₁ b o (of_hideAll _ e), Nat.le_of_eq (hideAll_size _ _)⟩
    (fun p hp => ⟨hk₁ _ _ (N p hp).1, Nat.ne_of_lt (Heap.lt_size (N p hp).1), hideAll_none _ (List.mem_map_of_mem hp)⟩) BG st hk₁
    (fun b o n e => hideAll_get _ e fun q => by obtain ⟨p, hp, e'⟩ := List.mem_map.mp q; exact n p hp e') rfl

/-- a def of the text, called: what the ledger does not name stays -/
theorem def_S (B : Below A₀ base outer h₀) (F : Fr h₀ L s.heap m) (X₀ : K.In h₀) (N : News h₀ L s.heap news) (T : Top p loose mean mg mb h₀) (hA : A.frames = some (env :: outer)) (hf : env.frame = some L) (hke : env.scope.kind = .function)
    (ho : K.lookup f = some ⟨oc, od, .func (fnOf name qual params body scope dV kV doc pm an cdv ct), osl⟩) (hcd : codeIn K cdv qual = true) (hroom : A.depth < recursionLimit)
    (hbind : BindsTo s (fnOf name qual params body scope dV kV doc pm an cdv ct) args binds) (hloc : ∀ y ∈ binds, scope.names.lookup y.1 = some .local)
    (h : ∀ g L' h₁, Fr h₀ L g m → Fr g L' h₁ (fun y => binds.reverse.lookup y) → News g L' h₁ news → Below A base (env :: outer) g → K.In g → Top p loose mean mg mb g → Old s.heap h₁ → ButOld news s.heap g →
      wpAny (model prog w) (A.deeper (envOf qual scope L' f cdv)) (execs body (envOf qual scope L' f cdv))
        (fun fl s' => R (.ok (.ret (match fl with | .ret v => v | _ => .none))) s')
        (fun e s' => wpAny (model prog w) (A.deeper (envOf qual scope L' f cdv)) (leaving (envOf qual scope L' f cdv) e) (fun _ s'' => R (.error e) s'') (fun e' s'' => R (.error e') s'') s')
        { s with heap := h₁, toks := s.toks + binds.length })
    (hcell : ∀ x ∈ scope.names, x.2 ≠ .cell) (hco : scope.isCoroutine = false) (hgen : scope.isGenerator = false) (hk : scope.kind = .function) : codeAny (model prog w) A (.call (.ref f) args) R s :=
  callX_S (cl := []) B F N T.nolimit hA hf hke ((X₀.keeps F.keep) _ _ ho) rfl (codeRec_of (X₀.keeps F.keep) hcd) hroom hbind hloc
    (fun g L' h₁ FG F' N' B' st O G _ => h g L' h₁ FG F' N' B' (X₀.keeps st) (T.keeps st) O G) hcell hco hgen hk
end

/-- the object's own dict: what does not turn -/
structure KD where
  h1 : Int
  h2 : Int
  h3 : Int
  h4 : Int
  h5 : Int
  t1 : Tok
  t2 : Tok
  t3 : Tok
  t4 : Tok
  t5 : Tok
  size : Int
  ts : Tok
  chop : Int
  tc : Tok
  kx : Addr
  kd : Addr
  cd : Addr
  ud : Addr
abbrev KD.es (D : KD) (n : Int) (tn : Tok) : List DictEntry :=
  [⟨D.h1, .str (Str.ofString "_Cache__maxSize") D.t1, .int D.size D.ts⟩, ⟨D.h2, .str (Str.ofString "_Cache__size") D.t2, .int n tn⟩, ⟨D.h3, .str (Str.ofString "_Cache__chopSize") D.t3, .int D.chop D.tc⟩,
   ⟨D.h4, .str (Str.ofString "_Cache__cache") D.t4, .ref D.cd⟩, ⟨D.h5, .str (Str.ofString "_Cache__usage") D.t5, .ref D.ud⟩]
end Mine

-- FhCache
theorem Mine.anewFhCache : True := by (w_top off); exact trivial
namespace Mine
open PySem PySem.W PyProof.Rows PySem.Calls

/-- the addresses in the order in which they were made -/
structure KD.Ok (D : KD) : Prop where
  o1 : @LT.lt Nat _ D.kd D.kx
  o2 : @LT.lt Nat _ D.kx D.cd
  o3 : @LT.lt Nat _ D.cd D.ud
  l1 : (D.cd == sysModules) = false
  l2 : (D.ud == sysModules) = false
abbrev KD.adr (D : KD) : List Addr := [D.kx, D.kd, D.cd, D.ud]
def ButA (as : List Addr) (H H' : Heap) : Prop := ∀ b o, b ∉ as → H.get? b = some o → H'.get? b = some o
theorem ButA.trans {as : List Addr} {H H' H'' : Heap} (x : ButA as H H') (y : ButA as H' H'') : ButA as H H'' := fun b o n e => y b o n (x b o n e)
theorem Old.butA {as : List Addr} {H H' : Heap} (x : Old H H') : ButA as H H' := fun b o _ e => x b o e
theorem ButOld.butA {news : List (Addr × Obj)} {H H' : Heap} (x : ButOld news H H') : ButA (news.map (·.1)) H H' := fun b o n e =>
  x b o (fun p hp q => n (List.mem_map.mpr ⟨p, hp, q⟩)) e

structure CacheAt (w : World) (h : Heap) (D : KD) (ρ : List Row) : Prop where
  inst : h.get? D.kx = some (instObj 67 D.kd)
  dict : ∃ tn, h.get? D.kd = some (dictOf (D.es (ρ.length : Int) tn) 5)
  cache : ∃ o kvs, h.get? D.cd = some o ∧ o.IsDictOf (intKind PySem.Challenge.rw_fh5009_01.row.prog w) kvs ∧ Vals kvs (kv ρ)
  usage : ∃ o kvs, h.get? D.ud = some o ∧ o.IsDictOf (intKind PySem.Challenge.rw_fh5009_01.row.prog w) kvs ∧ Vals kvs (kc ρ)
  nodup : (keysOf ρ).Nodup
theorem CacheAt.at {w : World} {h h' : Heap} {D : KD} {ρ : List Row} (C : CacheAt w h D ρ) (x : ∀ b ∈ D.adr, ∀ o, h.get? b = some o → h'.get? b = some o) : CacheAt w h' D ρ :=
  let ⟨_, e⟩ := C.dict
  let ⟨_, kvs, e1, r1⟩ := C.cache
  let ⟨_, kvs', e2, r2⟩ := C.usage
  ⟨x _ (.head _) _ C.inst, ⟨_, x _ (.tail _ (.head _)) _ e⟩, ⟨_, kvs, x _ (.tail _ (.tail _ (.head _))) _ e1, r1⟩, ⟨_, kvs', x _ (.tail _ (.tail _ (.tail _ (.head _)))) _ e2, r2⟩, C.nodup⟩
theorem CacheAt.old {w : World} {h h' : Heap} {D : KD} {ρ : List Row} (C : CacheAt w h D ρ) (x : Old h h') : CacheAt w h' D ρ := C.at fun b _ o e => x b o e
theorem CacheAt.lt {w : World} {h : Heap} {D : KD} {ρ : List Row} (C : CacheAt w h D ρ) : ∀ b ∈ D.adr, b < h.objs.size := by
  obtain ⟨_, e⟩ := C.dict
  obtain ⟨_, _, e1, _⟩ := C.cache
  obtain ⟨_, _, e2, _⟩ := C.usage
  intro b hb
  simp only [KD.adr, List.mem_cons, List.not_mem_nil, or_false] at hb
  rcases hb with rfl | rfl | rfl | rfl
  · exact Heap.lt_size C.inst
  · exact Heap.lt_size e
  · exact Heap.lt_size e1
  · exact Heap.lt_size e2
/-- none of these is of the frame's base, nor its locals -/
def Off (h₀ : Heap) (L : Addr) (as : List Addr) : Prop := ∀ a ∈ as, a ≠ L ∧ h₀.get? a = none
theorem CacheAt.news {w : World} {h h₀ : Heap} {L : Addr} {D : KD} {ρ : List Row} (C : CacheAt w h D ρ) (off : Off h₀ L D.adr) :
    ∃ tn oc ou ck uk, News h₀ L h [(D.kx, instObj 67 D.kd), (D.kd, dictOf (D.es (ρ.length : Int) tn) 5), (D.cd, oc), (D.ud, ou)] ∧
      oc.IsDictOf (intKind PySem.Challenge.rw_fh5009_01.row.prog w) ck ∧ Vals ck (kv ρ) ∧ ou.IsDictOf (intKind PySem.Challenge.rw_fh5009_01.row.prog w) uk ∧ Vals uk (kc ρ) := by
  obtain ⟨tn, e⟩ := C.dict
  obtain ⟨oc, ck, e1, r1, v1⟩ := C.cache
  obtain ⟨ou, uk, e2, r2, v2⟩ := C.usage
  refine ⟨tn, oc, ou, ck, uk, fun p hp => ?_, r1, v1, r2, v2⟩
  simp only [List.mem_cons, List.not_mem_nil, or_false] at hp
  rcases hp with rfl | rfl | rfl | rfl
  · exact ⟨C.inst, off _ (.head _)⟩
  · exact ⟨e, off _ (.tail _ (.head _))⟩
  · exact ⟨e1, off _ (.tail _ (.tail _ (.head _)))⟩
  · exact ⟨e2, off _ (.tail _ (.tail _ (.tail _ (.head _))))⟩

local macro_rules | `(tactic| walk_at "MINE enter") => `(tactic| (
  (case kK => assumption)
  (case kA => assumption)
  (case kF => assumption)
  (case k1 => k_asm)
  (case k2 => k_asm)
  (case k3 => k_asm)
  (case k4 => k_asm)
  (case k5 => k_asm)
  (case k6 => k_is)
  (case k7 => k_is)
  (case k8 => assumption)
  (case k9 => exact BindsTo.of_eq rfl)
  (case c5 => decide)
  (case kB => exact locs rfl)
  (case c2 => exact rfl)
  (case c3 => exact rfl)
  (case c4 => exact rfl)))
local macro_rules | `(tactic| walk_at "MINE step") => `(tactic| first | (k_unfold; (try dsimp only)) | (k_end; wrow_close) | walk1 | (dsimp only; walk1) | (leave1; walk_say "STEP leave1"; try dsimp only) | fail "no step")

section
variable {w : World} {A₀ A : Around} {s : Shared} {base h₀ : Heap} {outer : List Env} {L : Addr} {m mg mb : Str → Option Value} {env : Env} {loose : List Str} {mean : ExcName → Option Value} {p : Program}
  {D : KD} {ρ : List Row} {E : Value → Shared → Prop} {Q : Value → Shared → Prop} {k : Int} {tk : Tok}

theorem keep_len (C : CacheAt w s.heap D ρ) (off : Off h₀ L D.adr) (B : Below A₀ base outer h₀) (F : Fr h₀ L s.heap m) (X₀ : (Mine.hd.heap_39 w.params).In h₀) (T : Top p loose mean mg mb h₀)
    (hA : A.frames = some (env :: outer)) (hf : env.frame = some L) (hke : env.scope.kind = .function) (hroom : A.depth < recursionLimit) (hn : (ρ.length : Int) < 2 ^ 63)
    (h : ∀ h' tk t, Old s.heap h' → Q (.int (ρ.length : Int) t) { s with heap := h', toks := tk }) :
    wpAny (model PySem.Challenge.rw_fh5009_01.row.prog w) A (call (.builtin "len") [.ref D.kx]) Q E s := by
  obtain ⟨tn, oc, ou, ck, uk, N, _⟩ := C.news off
  revert X₀; k_fill; intro X₀
  refine' len_K ?k1 ?k2 ?k3 ?k4 ?k5 ?_
  case k1 => k_asm
  case k2 => k_asm
  case k3 => k_inst
  case k4 => k_is
  case k5 => k_is
  refine wpAny_call ?_
  have hA1 : A.in1.frames = some (env :: outer) := hA
  have hroom1 : A.in1.depth < recursionLimit := hroom
  refine' def_S (binds := [(Str.ofString "self", .ref D.kx)]) ?k1 ?k2 ?k3 ?k4 ?k5 ?kA ?kF ?kK ?k6 ?k7 ?k8 ?k9 ?kB ?_ ?c5 ?c2 ?c3 ?c4
  walk_at "MINE enter"
  intro g' L' h' FG' F' N' B' X' T' O' G'
  try dsimp only
  iterate 6 walk_at "MINE step"
  exact ⟨⟨Int.natCast_nonneg _, hn⟩, h h' _ _ O'⟩

theorem keep_in (C : CacheAt w s.heap D ρ) (hok : D.Ok) (off : Off h₀ L D.adr) (B : Below A₀ base outer h₀) (F : Fr h₀ L s.heap m) (X₀ : (Mine.hd.heap_39 w.params).In h₀) (T : Top p loose mean mg mb h₀)
    (hA : A.frames = some (env :: outer)) (hf : env.frame = some L) (hke : env.scope.kind = .function) (hroom : A.depth < recursionLimit)
    (h : ∀ h' tk, Old s.heap h' → Q (.bool (decide (k ∈ keysOf ρ))) { s with heap := h', toks := tk }) :
    wpAny (model PySem.Challenge.rw_fh5009_01.row.prog w) A (compareOp .In (.int k tk) (.ref D.kx)) Q E s := by
  obtain ⟨tn, oc, ou, ck, uk, N, hc, vc, hu, vu⟩ := C.news off
  revert X₀; k_fill; intro X₀
  refine' in_K ?k1 ?k2 ?k3 ?k4 ?k5 ?_
  case k1 => k_asm
  case k2 => k_asm
  case k3 => k_inst
  case k4 => k_is
  case k5 => k_is
  refine wpAny_call ?_
  refine' def_S (binds := [(Str.ofString "self", .ref D.kx), (Str.ofString "k", .int k tk)]) ?k1 ?k2 ?k3 ?k4 ?k5 ?kA ?kF ?kK ?k6 ?k7 ?k8 ?k9 ?kB ?_ ?c5 ?c2 ?c3 ?c4
  walk_at "MINE enter"
  intro g' L' h' FG' F' N' B' X' T' O' G'
  try dsimp only
  iterate 8 walk_at "MINE step"
  refine kda_in (knd := PySem.intKind _ _) N' (by k_mem) hc hok.l1 (intKind_is _ _ _ _) (decide (k ∈ keysOf ρ)) ?_ ?_
  · rw [vc.isSome, keys_kv]
  · dsimp only
    exact wpAny_truthy_bool (h h' _ O')
end
end Mine

-- FhCache2
theorem Mine.anewFhCache2 : True := by (w_top off); exact trivial
namespace Mine
open PySem PySem.W PyProof.Rows PySem.Calls
local macro_rules | `(tactic| walk_at "MINE enter") => `(tactic| (
  (case kK => assumption)
  (case kA => assumption)
  (case kF => assumption)
  (case k1 => k_asm)
  (case k2 => k_asm)
  (case k3 => k_asm)
  (case k4 => k_asm)
  (case k5 => k_asm)
  (case k6 => k_is)
  (case k7 => k_is)
  (case k8 => assumption)
  (case k9 => exact BindsTo.of_eq rfl)
  (case c5 => decide)
  (case kB => exact locs rfl)
  (case c2 => exact rfl)
  (case c3 => exact rfl)
  (case c4 => exact rfl)))
local macro_rules | `(tactic| walk_at "MINE step") => `(tactic| first | (k_unfold; (try dsimp only)) | (k_end; wrow_close) | walk1 | (dsimp only; walk1) | (leave1; walk_say "STEP leave1"; try dsimp only) | fail "no step")
local macro_rules | `(tactic| k_all) => `(tactic| assumption)

theorem fr_keeps_but {as : List Addr} {H g h' : Heap} {L' : Addr} {m' : Str → Option Value} (G : ButA as H g) (F : Fr g L' h' m') : ButA as H h' := fun b o n e => F.keep b o (G b o n e)

section
variable {w : World} {A₀ A : Around} {s : Shared} {base h₀ : Heap} {outer : List Env} {L : Addr} {m mg mb : Str → Option Value} {env : Env} {loose : List Str} {mean : ExcName → Option Value} {p : Program}
  {D : KD} {ρ : List Row} {E : Value → Shared → Prop} {Q : Value → Shared → Prop} {k v c : Int} {tk : Tok} {news rest : List (Addr × Obj)}

theorem keep_get (C : CacheAt w s.heap D ρ) (hok : D.Ok) (off : Off h₀ L D.adr) (B : Below A₀ base outer h₀) (F : Fr h₀ L s.heap m) (X₀ : (Mine.hd.heap_39 w.params).In h₀) (T : Top p loose mean mg mb h₀)
    (hA : A.frames = some (env :: outer)) (hf : env.frame = some L) (hke : env.scope.kind = .function) (hroom : A.depth < recursionLimit) (hr : (k, v, c) ∈ ρ) (hsz : ρ.length ≤ 1000)
    (h : ∀ h' tk t, CacheAt w h' D (bump k ρ) → ButA D.adr s.heap h' → Q (.int v t) { s with heap := h', toks := tk }) :
    wpAny (model PySem.Challenge.rw_fh5009_01.row.prog w) A (call (.ref 43) [.ref D.kx, .int k tk]) Q E s := by
  obtain ⟨tn, oc, ou, ck, uk, N, hc, vc, hu, vu⟩ := C.news off
  obtain ⟨o1, o2, o3, l1, l2⟩ := hok
  revert X₀; k_fill; intro X₀
  refine wpAny_call ?_
  refine' def_S (binds := [(Str.ofString "self", .ref D.kx), (Str.ofString "k", .int k tk)]) ?k1 ?k2 ?k3 ?k4 ?k5 ?kA ?kF ?kK ?k6 ?k7 ?k8 ?k9 ?kB ?_ ?c5 ?c2 ?c3 ?c4
  walk_at "MINE enter"
  intro g' L' h' FG' F' N' B' X' T' O' G'
  try dsimp only
  iterate 7 walk_at "MINE step"
  obtain ⟨t0, hv0⟩ := vu.at (find_kc C.nodup hr)
  refine wpAny_getItem_of (intKind_is _ _ _ _) (kda_dict N' (by k_mem) hu).mapOf hv0 ?_
  iterate 2 walk_at "MINE step"
  refine kda_set F' N' (.tail (by k_ne) (.tail (by k_ne) (.tail (by k_ne) (.head (by k_all))))) hu (intKind_is _ _ _ _) (by rw [vu.length, length_kc, sizeLine_eq]; omega) ?_
  intro h2 ou2 F2 N2 hu2
  dsimp only
  iterate 8 walk_at "MINE step"
  obtain ⟨t1, hv1⟩ := vc.at (find_kv C.nodup hr)
  refine tail_any (kda_dict N2 (by k_mem) hc).typeIs slot_dict_getitem.lookup (wpAny_getItem_of (intKind_is _ _ _ _) (kda_dict N2 (by k_mem) hc).mapOf hv1 ?_) (by with_unfolding_all rfl)
  dsimp only
  refine h h2 _ t1 ⟨(N2 _ (.head _)).1, ⟨tn, ?_⟩, ⟨oc, ck, (N2 _ (.tail _ (.tail _ (.head _)))).1, hc, by rw [kv_bump]; exact vc⟩, ⟨ou2, _, (N2 _ (.tail _ (.tail _ (.tail _ (.head _))))).1, hu2, ?_⟩, nodup_bump C.nodup⟩ (fr_keeps_but G'.butA F2)
  · rw [length_bump]; exact (N2 _ (.tail _ (.head _))).1
  · rw [← stored_kc_bump C.nodup hr]; exact vu.stored _ _ _

theorem keep_get_miss (C : CacheAt w s.heap D ρ) (hok : D.Ok) (B : Below A₀ base outer h₀) (F : Fr h₀ L s.heap m) (X₀ : (Mine.hd.heap_39 w.params).In h₀) (T : Top p loose mean mg mb h₀)
    (N : News h₀ L s.heap news) (hm : ∀ a ∈ D.adr, ∃ o, (a, o) ∈ news)
    (hA : A.frames = some (env :: outer)) (hf : env.frame = some L) (hke : env.scope.kind = .function) (hroom : A.depth < recursionLimit) (hh : A.handled = none) (hk : k ∉ keysOf ρ)
    (h : ∀ e h' tk g, Fr h₀ L g m → g.UpToSlots h' → RaisedN base (env :: outer) e (.type "KeyError") news h' → E (.ref e) { s with heap := h', toks := tk }) :
    wpAny (model PySem.Challenge.rw_fh5009_01.row.prog w) A (call (.ref 43) [.ref D.kx, .int k tk]) Q E s := by
  have off : Off h₀ L D.adr := fun a ha => by obtain ⟨o, ho⟩ := hm a ha; exact (N _ ho).2
  obtain ⟨tn, oc, ou, ck, uk, N4, hc, vc, hu, vu⟩ := C.news off
  have N0 : News h₀ L s.heap ([(D.kx, instObj 67 D.kd), (D.kd, dictOf (D.es (ρ.length : Int) tn) 5), (D.cd, oc), (D.ud, ou)] ++ news) := fun p hp => (List.mem_append.mp hp).elim (N4 p) (N p)
  simp only [List.cons_append, List.nil_append] at N0
  clear N
  obtain ⟨o1, o2, o3, l1, l2⟩ := hok
  revert X₀; k_fill; intro X₀
  refine wpAny_call ?_
  refine' def_S (binds := [(Str.ofString "self", .ref D.kx), (Str.ofString "k", .int k tk)]) ?k1 ?k2 ?k3 N0 ?k5 ?kA ?kF ?kK ?k6 ?k7 ?k8 ?k9 ?kB ?_ ?c5 ?c2 ?c3 ?c4
  (case kK => assumption)
  (case kA => assumption)
  (case kF => assumption)
  (case k1 => k_asm)
  (case k2 => k_asm)
  (case k3 => k_asm)
  (case k5 => k_asm)
  (case k6 => k_is)
  (case k7 => k_is)
  (case k8 => assumption)
  (case k9 => exact BindsTo.of_eq rfl)
  (case c5 => decide)
  (case kB => exact locs rfl)
  (case c2 => exact rfl)
  (case c3 => exact rfl)
  (case c4 => exact rfl)
  clear N4 N0
  intro g' L' h' FG' F' N' B' X' T' O' G'
  try dsimp only
  iterate 7 walk_at "MINE step"
  refine wpAny_getItem_missing_of (intKind_is _ _ _ _) l2 hh (kda_dict N' (by k_mem) hu).mapOf (vu.none (by rw [keys_kc]; exact hk)) ?_
  intro h2 e hx
  dsimp only
  refine leave_newK B' hx F' N' ?_
  intro h3 R U
  exact h e h3 _ g' FG' U (by
    obtain ⟨B₁, a0, r1, r2, r3⟩ := R
    exact ⟨B₁, a0, r1, fun q hq => r2 q (by simp [hq]), r3⟩)
end
end Mine

-- FhCache3
theorem Mine.anewFhCache3 : True := by (w_top off); exact trivial
namespace Mine
open PySem PySem.W PyProof.Rows PySem.Calls
local macro_rules | `(tactic| walk_at "MINE enter") => `(tactic| (
  (case kK => assumption)
  (case kA => assumption)
  (case kF => assumption)
  (case k1 => k_asm)
  (case k2 => k_asm)
  (case k3 => k_asm)
  (case k4 => k_asm)
  (case k5 => k_asm)
  (case k6 => k_is)
  (case k7 => k_is)
  (case k8 => assumption)
  (case k9 => exact BindsTo.of_eq rfl)
  (case c5 => decide)
  (case kB => exact locs rfl)
  (case c2 => exact rfl)
  (case c3 => exact rfl)
  (case c4 => exact rfl)))
local macro_rules | `(tactic| walk_at "MINE step") => `(tactic| first | (k_unfold; (try dsimp only)) | (k_end; wrow_close) | walk1 | (dsimp only; walk1) | (leave1; walk_say "STEP leave1"; try dsimp only) | fail "no step")
local macro_rules | `(tactic| k_all) => `(tactic| assumption)

section
variable {M : Model} {A : Around} {E : Value → Shared → Prop} {s : Shared} {K : Frag} {x C L f : Addr} {h₀ : Heap} {m : Str → Option Value} {ox : Obj} {od : Option Obj} {i v : Value}
/-- del x[i] on an object whose class says __delitem__ -/
theorem inst_delItem {Q : Unit → Shared → Prop} (F : Fr h₀ L s.heap m) (X₀ : K.In h₀) (I : InstAt s.heap x ox C od) (hq : noSeq K C = true) (hs : findIn K (.ref C) "__delitem__" = some (some (.ref f))) (hf : isFn K (.ref f) = true)
    (h : wpAny M A (call (.ref f) [.ref x, i]) (fun _ s' => Q () s') E s) : wpAny M A (delItem (.ref x) i) Q E s := by
  have X := X₀.keeps F.keep
  unfold delItem sequenceKey
  refine wpAny_holding (wpAny_bind (wpAny_bind (I.type.here ?_)))
  refine wpAny_bind ((anyM_none X hq).here ?_)
  rw [if_pos (show (!false) = true from rfl)]
  exact wpAny_pure (wpAny_bind (special_fn X I hs (beq_iff_eq.mp hf) (wpAny_mono h (fun _ _ z => wpAny_pure z) fun _ _ z => z)))
end

section
variable {prog : Program} {w : World} {KK : Type} [DecidableEq KK] {knd : KeyKind prog w KK} {A : Around} {E : Value → Shared → Prop} {s : Shared} {d : Addr} {k : KK} {key : Value}
theorem dict_del_missing {kvs : List (KK × Value)} {Q : Unit → Shared → Prop} (hkey : knd.is k key = true) (hd : (d == sysModules) = false) (hh : A.handled = none) (hD : s.heap.DictOf knd d kvs) (hv : valueAt kvs k = none)
    (h : ∀ h' e, Heap.NewExc s.heap h' e "KeyError" → E (.ref e) { s with heap := h', toks := s.toks + 1 }) : wpAny (model prog w) A (delItem (.ref d) key) Q E s := by
  unfold delItem
  try with_reducible refine wpAny_holding ?_
  refine wpAny_bind (wpAny_sequenceKey hD.typeIs (by decide) ?_)
  refine wpAny_bind (wpAny_callSpecial?_slot (name := Str.ofString "__delitem__") hD.typeIs PySem.F.slot_dict_delitem
    (call_meetsIn PySem.F.slot_dict_delitem hD.typeIs PySem.F.entry_dict_delitem (PySem.F.args_dict_delitem_2 _ _) (meets_dict_delitem_missing knd d hkey hd) ⟨hh, kvs, hD, hv, h⟩))
end

section
variable {w : World} {A₀ A : Around} {s : Shared} {base h₀ : Heap} {outer : List Env} {L : Addr} {m mg mb : Str → Option Value} {env : Env} {loose : List Str} {mean : ExcName → Option Value} {p : Program}
  {D : KD} {ρ : List Row} {E : Value → Shared → Prop} {Q : Value → Shared → Prop} {k v c : Int} {tk : Tok} {news rest : List (Addr × Obj)}

theorem keep_del (C : CacheAt w s.heap D ρ) (hok : D.Ok) (off : Off h₀ L D.adr) (B : Below A₀ base outer h₀) (F : Fr h₀ L s.heap m) (X₀ : (Mine.hd.heap_39 w.params).In h₀) (T : Top p loose mean mg mb h₀)
    (hA : A.frames = some (env :: outer)) (hf : env.frame = some L) (hke : env.scope.kind = .function) (hroom : A.depth < recursionLimit) (hr : k ∈ keysOf ρ) (hsz : ρ.length ≤ 1000)
    (h : ∀ h' tk, CacheAt w h' D (drop k ρ) → ButA D.adr s.heap h' → Q .none { s with heap := h', toks := tk }) :
    wpAny (model PySem.Challenge.rw_fh5009_01.row.prog w) A (call (.ref 64) [.ref D.kx, .int k tk]) Q E s := by
  obtain ⟨tn, oc, ou, ck, uk, N, hc, vc, hu, vu⟩ := C.news off
  obtain ⟨o1, o2, o3, l1, l2⟩ := hok
  revert X₀; k_fill; intro X₀
  refine wpAny_call ?_
  refine' def_S (binds := [(Str.ofString "self", .ref D.kx), (Str.ofString "k", .int k tk)]) ?k1 ?k2 ?k3 ?k4 ?k5 ?kA ?kF ?kK ?k6 ?k7 ?k8 ?k9 ?kB ?_ ?c5 ?c2 ?c3 ?c4
  walk_at "MINE enter"
  intro g' L' h' FG' F' N' B' X' T' O' G'
  try dsimp only
  iterate 9 walk_at "MINE step"
  refine kob_del F' N' (.tail (by k_ne) (.tail (by k_ne) (.head (by k_all)))) hc (intKind_is _ _ _ _) (by rw [vc.isSome, keys_kv]; simpa using hr) (by rw [vc.length, length_kv, sizeLine_eq]; omega) ?_
  intro h2 oc2 F2 N2 hc2
  dsimp only
  iterate 10 walk_at "MINE step"
  refine kob_del F2 N2 (.tail (by k_ne) (.tail (by k_ne) (.tail (by k_ne) (.head (by k_all))))) hu (intKind_is _ _ _ _) (by rw [vu.isSome, keys_kc]; simpa using hr) (by rw [vu.length, length_kc, sizeLine_eq]; omega) ?_
  intro h3 ou2 F3 N3 hu2
  dsimp only
  iterate 10 walk_at "MINE step"
  rename News _ _ _ _ => N4
  rename Fr _ _ _ _ => F4
  have hl := length_drop C.nodup hr
  have e : ((drop k ρ).length : Int) = (ρ.length : Int) - 1 := by omega
  refine h _ _ ⟨(N4 _ (.head _)).1, ?_, ⟨oc2, _, (N4 _ (.tail _ (.tail _ (.head _)))).1, hc2, ?_⟩, ⟨ou2, _, (N4 _ (.tail _ (.tail _ (.tail _ (.head _))))).1, hu2, ?_⟩, nodup_drop C.nodup⟩ (fr_keeps_but G'.butA F4)
  · rw [e]; exact ⟨_, (N4 _ (.tail _ (.head _))).1⟩
  · rw [← kv_drop]; exact vc.without
  · rw [← kc_drop]; exact vu.without

theorem keep_del_miss (C : CacheAt w s.heap D ρ) (hok : D.Ok) (B : Below A₀ base outer h₀) (F : Fr h₀ L s.heap m) (X₀ : (Mine.hd.heap_39 w.params).In h₀) (T : Top p loose mean mg mb h₀)
    (N : News h₀ L s.heap news) (hm : ∀ a ∈ D.adr, ∃ o, (a, o) ∈ news)
    (hA : A.frames = some (env :: outer)) (hf : env.frame = some L) (hke : env.scope.kind = .function) (hroom : A.depth < recursionLimit) (hh : A.handled = none) (hk : k ∉ keysOf ρ)
    (h : ∀ e h' tk g, Fr h₀ L g m → g.UpToSlots h' → RaisedN base (env :: outer) e (.type "KeyError") news h' → E (.ref e) { s with heap := h', toks := tk }) :
    wpAny (model PySem.Challenge.rw_fh5009_01.row.prog w) A (call (.ref 64) [.ref D.kx, .int k tk]) Q E s := by
  have off : Off h₀ L D.adr := fun a ha => by obtain ⟨o, ho⟩ := hm a ha; exact (N _ ho).2
  obtain ⟨tn, oc, ou, ck, uk, N4, hc, vc, hu, vu⟩ := C.news off
  have N0 : News h₀ L s.heap ([(D.kx, instObj 67 D.kd), (D.kd, dictOf (D.es (ρ.length : Int) tn) 5), (D.cd, oc), (D.ud, ou)] ++ news) := fun p hp => (List.mem_append.mp hp).elim (N4 p) (N p)
  simp only [List.cons_append, List.nil_append] at N0
  clear N
  obtain ⟨o1, o2, o3, l1, l2⟩ := hok
  revert X₀; k_fill; intro X₀
  refine wpAny_call ?_
  refine' def_S (binds := [(Str.ofString "self", .ref D.kx), (Str.ofString "k", .int k tk)]) ?k1 ?k2 ?k3 N0 ?k5 ?kA ?kF ?kK ?k6 ?k7 ?k8 ?k9 ?kB ?_ ?c5 ?c2 ?c3 ?c4
  (case kK => assumption)
  (case kA => assumption)
  (case kF => assumption)
  (case k1 => k_asm)
  (case k2 => k_asm)
  (case k3 => k_asm)
  (case k5 => k_asm)
  (case k6 => k_is)
  (case k7 => k_is)
  (case k8 => assumption)
  (case k9 => exact BindsTo.of_eq rfl)
  (case c5 => decide)
  (case kB => exact locs rfl)
  (case c2 => exact rfl)
  (case c3 => exact rfl)
  (case c4 => exact rfl)
  clear N4 N0
  intro g' L' h' FG' F' N' B' X' T' O' G'
  try dsimp only
  iterate 9 walk_at "MINE step"
  refine dict_del_missing (intKind_is _ _ _ _) l1 hh (kda_dict N' (by k_mem) hc) (vc.none (by rw [keys_kv]; exact hk)) ?_
  intro h2 e hx
  dsimp only
  refine leave_newK B' hx F' N' ?_
  intro h3 R U
  exact h e h3 _ g' FG' U (by
    obtain ⟨B₁, a0, r1, r2, r3⟩ := R
    exact ⟨B₁, a0, r1, fun q hq => r2 q (by simp [hq]), r3⟩)
end
end Mine

-- FhCache4
theorem Mine.anewFhCache4 : True := by (w_top off); exact trivial
namespace Mine
open PySem PySem.W PyProof.Rows PySem.Calls
local macro_rules | `(tactic| walk_at "MINE enter") => `(tactic| (
  (case kK => assumption)
  (case kA => assumption)
  (case kF => assumption)
  (case k1 => k_asm)
  (case k2 => k_asm)
  (case k3 => k_asm)
  (case k4 => k_asm)
  (case k5 => k_asm)
  (case k6 => k_is)
  (case k7 => k_is)
  (case k8 => assumption)
  (case k9 => exact BindsTo.of_eq rfl)
  (case c5 => decide)
  (case kB => exact locs rfl)
  (case c2 => exact rfl)
  (case c3 => exact rfl)
  (case c4 => exact rfl)))
local macro_rules | `(tactic| walk_at "MINE step") => `(tactic| first | (k_unfold; (try dsimp only)) | (k_end; wrow_close) | walk1 | (dsimp only; walk1) | (leave1; walk_say "STEP leave1"; try dsimp only) | fail "no step")
local macro_rules | `(tactic| k_all) => `(tactic| assumption)

section
variable {w : World} {A₀ A : Around} {s : Shared} {base h₀ : Heap} {outer : List Env} {L : Addr} {m mg mb : Str → Option Value} {env : Env} {loose : List Str} {mean : ExcName → Option Value} {p : Program}
  {D : KD} {ρ : List Row} {E : Value → Shared → Prop} {Q : Value → Shared → Prop} {k v c : Int} {tk tv : Tok} {news rest : List (Addr × Obj)}

theorem keep_set_low (C : CacheAt w s.heap D ρ) (hok : D.Ok) (off : Off h₀ L D.adr) (B : Below A₀ base outer h₀) (F : Fr h₀ L s.heap m) (X₀ : (Mine.hd.heap_39 w.params).In h₀) (T : Top p loose mean mg mb h₀)
    (hA : A.frames = some (env :: outer)) (hf : env.frame = some L) (hke : env.scope.kind = .function) (hroom : A.depth < recursionLimit) (hsz : ρ.length < 64) (hlow : ¬ D.size ≤ (ρ.length : Int))
    (h : ∀ h' tk, CacheAt w h' D (put k v ρ) → ButA D.adr s.heap h' → Q .none { s with heap := h', toks := tk }) :
    wpAny (model PySem.Challenge.rw_fh5009_01.row.prog w) A (call (.ref 57) [.ref D.kx, .int k tk, .int v tv]) Q E s := by
  obtain ⟨tn, oc, ou, ck, uk, N, hc, vc, hu, vu⟩ := C.news off
  have nd := C.nodup
  clear C
  obtain ⟨o1, o2, o3, l1, l2⟩ := hok
  revert X₀; k_fill; intro X₀
  refine wpAny_call ?_
  refine' def_S (binds := [(Str.ofString "self", .ref D.kx), (Str.ofString "k", .int k tk), (Str.ofString "v", .int v tv)]) ?k1 ?k2 ?k3 ?k4 ?k5 ?kA ?kF ?kK ?k6 ?k7 ?k8 ?k9 ?kB ?_ ?c5 ?c2 ?c3 ?c4
  walk_at "MINE enter"
  intro g' L' h' FG' F' N' B' X' T' O' G'
  try dsimp only
  iterate 10 walk_at "MINE step"
  refine ge_int (wpAny_truthy_bool ?_)
  rw [if_neg (by simpa using hlow)]
  iterate 9 walk_at "MINE step"
  refine wpAny_notIn_of (intKind_is _ _ _ _) l1 (kda_dict N' (by k_mem) hc).mapOf ?_
  rw [vc.isSome, keys_kv]
  refine wpAny_truthy_bool ?_
  by_cases hk : k ∈ keysOf ρ
  · rw [if_neg (by simpa using hk)]
    iterate 9 walk_at "MINE step"
    refine kda_set F' N' (.tail (by k_ne) (.tail (by k_ne) (.head (by k_all)))) hc (intKind_is _ _ _ _) (by rw [vc.length, length_kv, sizeLine_eq]; omega) ?_
    intro h2 oc2 F2 N2 hc2
    dsimp only
    iterate 2 walk_at "MINE step"
    refine h _ _ ⟨(N2 _ (.head _)).1, ?_, ⟨oc2, _, (N2 _ (.tail _ (.tail _ (.head _)))).1, hc2, ?_⟩, ⟨ou, _, (N2 _ (.tail _ (.tail _ (.tail _ (.head _))))).1, hu, ?_⟩, nodup_put nd⟩ (fr_keeps_but G'.butA F2)
    · rw [length_put_old hk]; exact ⟨_, (N2 _ (.tail _ (.head _))).1⟩
    · rw [← stored_kv]; exact vc.stored _ _ _
    · rw [kc_put_old hk]; exact vu
  · rw [if_pos (by simpa using hk)]
    iterate 15 walk_at "MINE step"
    rename News _ _ _ _ => N2
    rename Fr _ _ _ _ => F2
    refine kda_set F2 N2 (.tail (by k_ne) (.tail (by k_ne) (.tail (by k_ne) (.head (by k_all))))) hu (intKind_is _ _ _ _) (by rw [vu.length, length_kc, sizeLine_eq]; omega) ?_
    intro h3 ou2 F3 N3 hu2
    dsimp only
    iterate 9 walk_at "MINE step"
    refine kda_set F3 N3 (.tail (by k_ne) (.tail (by k_ne) (.head (by k_all)))) hc (intKind_is _ _ _ _) (by rw [vc.length, length_kv, sizeLine_eq]; omega) ?_
    intro h4 oc2 F4 N4 hc2
    dsimp only
    iterate 2 walk_at "MINE step"
    have e : ((put k v ρ).length : Int) = (ρ.length : Int) + 1 := by rw [length_put_new hk]; omega
    refine h _ _ ⟨(N4 _ (.head _)).1, ?_, ⟨oc2, _, (N4 _ (.tail _ (.tail _ (.head _)))).1, hc2, ?_⟩, ⟨ou2, _, (N4 _ (.tail _ (.tail _ (.tail _ (.head _))))).1, hu2, ?_⟩, nodup_put nd⟩ (fr_keeps_but G'.butA F4)
    · rw [e]; exact ⟨_, (N4 _ (.tail _ (.head _))).1⟩
    · rw [← stored_kv]; exact vc.stored _ _ _
    · rw [← stored_kc_new v hk]; exact vu.stored _ _ _
end
end Mine

-- FhBoundA
theorem Mine.anewFhBoundA : True := by (w_top off); exact trivial
namespace Mine
open PySem PySem.W PyProof.Rows PySem.Calls

def boundGet (a : Addr) : Obj := { cls := .type "builtin_function_or_method", data := .fields #[.builtin "dict.get", .ref a] }
theorem bg_lk : typeLookup (.type "dict") "get" = pure (some (.builtin "dict.get")) := by rw [typeLookup_type, builtinLookup_eq_fast]; kernel_rfl
theorem bg_get : typeLookup (.type "method_descriptor") "__get__" = pure (some (.builtin "method_descriptor.__get__")) := by rw [typeLookup_type, builtinLookup_eq_fast]; kernel_rfl
theorem bg_set : typeLookup (.type "method_descriptor") "__set__" = pure none := by rw [typeLookup_type, builtinLookup_eq_fast]; kernel_rfl
theorem bg_del : typeLookup (.type "method_descriptor") "__delete__" = pure none := by rw [typeLookup_type, builtinLookup_eq_fast]; kernel_rfl
theorem bg_slot : Slot "method_descriptor" "__get__" "method_descriptor.__get__" :=
  .of (owner := "method_descriptor") (n := "__get__") (by rw [typeLookup_type, builtinLookup_eq_fast]; kernel_rfl) (by decide +kernel) (by decide +kernel) (by decide +kernel)
    (by first | exact .inl (by decide +kernel) | exact .inr (by decide +kernel)) (by rw [isSubtype_type]; kernel_rfl)
theorem bg_entry : entryFor table "method_descriptor.__get__" = some Builtin.«method_descriptor.__get__» := entryFor_of_tree (by kernel_rfl)
theorem bg_args (a b c : Value) : argsOk "method_descriptor.__get__" ⟨[a, b, c], []⟩ := by unfold argsOk; kernel_rfl

theorem bg_owner : ".".intercalate ("dict.get".cutAt '.').dropLast = "dict" := by first | rfl | decide +kernel | kernel_rfl
theorem bg_sub : isSubtype (.type "dict") (.type (".".intercalate ("dict.get".cutAt '.').dropLast)) = pure true := by rw [bg_owner, isSubtype_type]; kernel_rfl
section
variable {prog : Program} {w : World} {A : Around} {E : Value → Shared → Prop} {h : Heap} {g : Array GenState} {d : Drawn} {t : Nat} {os : OsState} {a : Addr} {es : Array DictEntry} {ep : Nat}
theorem bg_find {tk : Tok} {Q : PySem.Fin → Shared → Prop} (hx : h.get? a = some { cls := .type "dict", dict := none, data := .dict es ep, slots := #[] }) (hq : Q (.done (.ret (.ref h.objs.size))) ⟨h.push (boundGet a), g, d, t, os⟩) :
    wpAny (model prog w) A (Builtin.«object.__getattribute__» ⟨[.ref a, .str "get" tk], []⟩) Q E ⟨h, g, d, t, os⟩ := by
  have hT : (⟨h, g, d, t, os⟩ : Shared).TypeIs (.ref a) "dict" := ⟨_, hx, rfl⟩
  have f4 := bg_lk
  have f5 := F.type_dict_get
  have f6 := bg_get
  have f7 := bg_set
  have f8 := bg_del
  have f9 := bg_sub
  repeat (any_goals (first | assumption | wp_step))
  have hT5 : (⟨h, g, d, t, os⟩ : Shared).TypeIs (.builtin "dict.get") "method_descriptor" := F.type_dict_get
  refine codeAny_call_builtin bg_slot.plain bg_entry (bg_slot.check _ _ _ _ _ _ _ _ hT5 (bg_args _ _ _) ?_)
  repeat (any_goals (first | assumption | wp_step))

theorem bg_call {tk : Tok} {R : Result → Shared → Prop} (hx : h.get? a = some { cls := .type "dict", dict := none, data := .dict es ep, slots := #[] }) (hq : R (.ok (.ret (.ref h.objs.size))) ⟨h.push (boundGet a), g, d, t, os⟩) :
    codeAny (model prog w) A (.call (.builtin "dict.__getattribute__") ⟨[.ref a, .str "get" tk], []⟩) R ⟨h, g, d, t, os⟩ :=
  codeAny_call_builtin F.slot_dict_getattribute.plain F.entry_dict_ga (F.slot_dict_getattribute.check _ _ _ _ _ _ _ _ (show (⟨h, g, d, t, os⟩ : Shared).TypeIs (.ref a) "dict" from ⟨_, hx, rfl⟩) (F.args_dict_getattribute_2 _ _) (bg_find hx hq))

theorem bg_attr {Q : Value → Shared → Prop} {b : Bool} (hx : h.get? a = some { cls := .type "dict", dict := none, data := .dict es ep, slots := #[] }) (hq : Q (.ref h.objs.size) ⟨h.push (boundGet a), g, d, t + 1, os⟩) :
    wpAny (model prog w) A (getAttr (.ref a) "get" b) Q E ⟨h, g, d, t, os⟩ := by
  have hT : (⟨h, g, d, t + 1, os⟩ : Shared).TypeIs (.ref a) "dict" := ⟨_, hx, rfl⟩
  have f2 := F.slot_dict_getattribute.lookup
  have f3 := F.slot_dict_getattribute.bind (.ref a)
  unfold getAttr
  cases b
  all_goals
    repeat (any_goals (first | assumption | wp_step))
    refine bg_call hx ?_
    repeat (any_goals (first | assumption | wp_step))
end
end Mine

-- FhBound
theorem Mine.anewFhBound : True := by (w_top off); exact trivial
namespace Mine
open PySem PySem.W PyProof.Rows PySem.Calls
theorem bg_kind : builtinKind "dict.get" = some .method := by kernel_rfl
theorem bg_sig : Manifest.signature? "dict.get" = some ⟨.positional, "dict.get", "get", .self, [⟨"key", .posOnly, true⟩, ⟨"default", .posOnly, false⟩]⟩ := by kernel_rfl
theorem bg_nomod : isSubtype (.type "dict") (.type "module") = pure false := by rw [isSubtype_type]; kernel_rfl
theorem bg_notype : isSubtype (.type "dict") (.type "type") = pure false := by rw [isSubtype_type]; kernel_rfl
theorem bg_novar : Manifest.varargsMethods.contains "dict.get" = false := by decide +kernel
theorem bg_chk {d : Addr} {k : Int} {t : Tok} : Bind.checkArgs "dict.get" ⟨.positional, toString (Bind.lastOf "dict") ++ toString "." ++ toString (Bind.lastOf "dict.get"), "get", .self, [⟨"key", .posOnly, true⟩, ⟨"default", .posOnly, false⟩]⟩ ⟨[.ref d, .int k t], []⟩ = pure () := by kernel_rfl
theorem dict_obj {prog : Program} {w : World} {h : Heap} {d : Addr} {kvs : List (Int × Value)} (hD : h.DictOf (PySem.intKind prog w) d kvs) : ∃ es ep, h.get? d = some { cls := .type "dict", dict := none, data := .dict es ep, slots := #[] } := by
  obtain ⟨⟨c, dd, da, sl⟩, es, ep, ho, ⟨h1, h2, h3⟩, hd, _⟩ := hD
  dsimp only at h1 h2 h3 hd
  subst h1 h2 h3 hd
  exact ⟨es, ep, ho⟩
section
variable {M : Model} {A : Around} {E : Value → Shared → Prop} {s : Shared} {d : Addr} {k : Int} {t : Tok} {es : Array DictEntry} {ep : Nat}
theorem bg_check {Q : Unit → Shared → Prop} (ho : s.heap.get? d = some { cls := .type "dict", dict := none, data := .dict es ep, slots := #[] }) (h : Q () s) : wpAny M A (checkBoundCall "dict.get" ⟨[.ref d, .int k t], []⟩) Q E s := by
  have hT : s.TypeIs (.ref d) "dict" := ⟨_, ho, rfl⟩
  unfold checkBoundCall
  rw [bg_sig, bg_kind]
  dsimp only
  refine KFB.if_not (by decide) ?_
  refine wpAny_bind (wpAny_isInstance hT bg_nomod ?_)
  rw [bg_novar]
  refine KFB.if_not rfl ?_
  refine wpAny_bind (m := isType (.ref d)) ?_
  have f1 := bg_notype
  repeat (any_goals (first | assumption | wp_step))
end
theorem bg_plain : plainId "dict.get" = true := by decide +kernel
section
variable {prog : Program} {w : World} {A : Around} {E : Value → Shared → Prop} {s : Shared} {d q : Addr} {k : Int} {t : Tok} {kvs : List (Int × Value)} {v : Value}
/-- q = d.get, called -/
theorem bg_run {Q : Value → Shared → Prop} (ho : s.heap.get? q = some (boundGet d)) (lo : (d == sysModules) = false) (hD : s.heap.DictOf (PySem.intKind prog w) d kvs) (hv : valueAt kvs k = some v) (h : Q v { s with toks := s.toks + 1 }) :
    wpAny (model prog w) A (call (.ref q) [.int k t]) Q E s := by
  refine wpAny_call (codeAny_of_tree ?_)
  show wpAny _ A.in1 (callAny (.ref q) ⟨[.int k t], []⟩) _ _ s
  simp only [callAny]
  refine wpAny_bind (wpAny_load ho ?_)
  simp only [boundGet, show (Value.type "builtin_function_or_method" == Value.type "method" || Value.type "builtin_function_or_method" == Value.type "builtin_function_or_method" || Value.type "builtin_function_or_method" == Value.type "method-wrapper") = true by decide, if_true]
  refine KFB.if_so (by decide) ?_
  obtain ⟨es, ep, hod⟩ := dict_obj hD
  refine wpAny_bind (bg_check hod ?_)
  refine wpAny_bind (wpAny_pure (wpAny_pure ?_))
  refine ⟨Code.quiet_builtin _ (by decide +kernel), codeAny_builtin PySem.F.entry_dict_get ?_⟩
  rw [Around.under_plainId bg_plain]
  refine meets_dict_get (PySem.intKind prog w) d (k := k) (key := .int k t) (intKind_is _ _ _ _) lo A (fun r s' => match r with | .ok (.ret v) => Q v s' | .ok _ => False | .error e => E e s') s ⟨_, hD.mapOf, ?_⟩
  rw [hv]
  exact h
end
end Mine

-- FhCache5
theorem Mine.anewFhCache5 : True := by (w_top off); exact trivial
namespace Mine
open PySem PySem.W PyProof.Rows PySem.Calls
local macro_rules | `(tactic| walk_at "MINE enter") => `(tactic| (
  (case kK => assumption)
  (case kA => assumption)
  (case kF => assumption)
  (case k1 => k_asm)
  (case k2 => k_asm)
  (case k3 => k_asm)
  (case k4 => k_asm)
  (case k5 => k_asm)
  (case k6 => k_is)
  (case k7 => k_is)
  (case k8 => assumption)
  (case k9 => exact BindsTo.of_eq rfl)
  (case c5 => decide)
  (case kB => exact locs rfl)
  (case c2 => exact rfl)
  (case c3 => exact rfl)
  (case c4 => exact rfl)))
local macro_rules | `(tactic| walk_at "MINE step") => `(tactic| first | (k_unfold; (try dsimp only)) | (k_end; wrow_close) | walk1 | (dsimp only; walk1) | (leave1; walk_say "STEP leave1"; try dsimp only) | fail "no step")
local macro_rules | `(tactic| k_all) => `(tactic| assumption)

section
variable {w : World} {A₀ A : Around} {s : Shared} {base h₀ : Heap} {outer : List Env} {L : Addr} {m mg mb : Str → Option Value} {env : Env} {loose : List Str} {mean : ExcName → Option Value} {p : Program}
  {D : KD} {ρ : List Row} {E : Value → Shared → Prop} {Q : Value → Shared → Prop} {k v c : Int} {kt tv : Tok} {news rest : List (Addr × Obj)}

def cntOf (ρ : List Row) (k : Int) : Int := (((kc ρ).find? fun q => decide (q.1 = k)).map (·.2)).getD 0
theorem cntOf_row {ρ : List Row} (hn : (keysOf ρ).Nodup) : ∀ r ∈ ρ, cntOf ρ r.1 = r.2.2 := fun r hr => by
  unfold cntOf
  rw [find_kc hn (k := r.1) (v := r.2.1) (c := r.2.2) hr]
  rfl
theorem cntOf_at {ρ : List Row} {uk : List (Int × Value)} (hn : (keysOf ρ).Nodup) (vu : Vals uk (kc ρ)) {k : Int} (hk : k ∈ keysOf ρ) : ∃ t, valueAt uk k = some (.int (cntOf ρ k) t) := by
  obtain ⟨⟨k', v, c⟩, hr, rfl⟩ := row_of hk
  rw [cntOf_row hn _ hr]
  exact vu.at (find_kc hn hr)

theorem dropAll_snoc (n : Int) : ∀ (ks : List Int) (ρ : List Row), dropAll (ks ++ [n]) ρ = drop n (dropAll ks ρ)
  | [], _ => rfl
  | _ :: ks, ρ => dropAll_snoc n ks _
theorem mem_dropAll {x : Int} : ∀ (ks : List Int) {ρ : List Row}, x ∈ keysOf ρ → x ∉ ks → x ∈ keysOf (dropAll ks ρ)
  | [], _, h, _ => h
  | k :: ks, ρ, h, hn => mem_dropAll ks (by
      rw [keys_drop, List.mem_filter]
      exact ⟨h, by simp only [decide_eq_true_eq]; intro e; exact hn (e ▸ List.mem_cons_self ..)⟩) fun hx => hn (List.mem_cons_of_mem _ hx)
theorem not_mem_take {ks : List Int} (hn : ks.Nodup) {i : Nat} {x : Int} (h : ks[i]? = some x) : x ∉ ks.take i := by
  intro hm
  obtain ⟨j, hj⟩ := List.getElem?_of_mem hm
  rw [List.getElem?_take] at hj
  split at hj
  · rename_i hlt
    have e1 := idxOf_nodup hn h
    have e2 := idxOf_nodup hn hj
    omega
  · cases hj
theorem nodup_dropAll : ∀ (ks : List Int) {ρ : List Row}, (keysOf ρ).Nodup → (keysOf (dropAll ks ρ)).Nodup
  | [], _, h => h
  | _ :: ks, _, h => nodup_dropAll ks (nodup_drop h)
theorem length_dropAll_le : ∀ (ks : List Int) (ρ : List Row), (dropAll ks ρ).length ≤ ρ.length
  | [], _ => Nat.le_refl _
  | _ :: ks, ρ => Nat.le_trans (length_dropAll_le ks _) (List.length_filter_le _ _)

theorem chain3 {m : Str → Option Value} {a b c : Str} {va vb vc : Value} (ha : m a = some va) (hb : m b = some vb) (hc : m c = some vc) :
    m = fun y => if y = a then some va else if y = b then some vb else if y = c then some vc else m y := by
  funext y
  by_cases h1 : y = a
  · rw [if_pos h1, h1, ha]
  · rw [if_neg h1]
    by_cases h2 : y = b
    · rw [if_pos h2, h2, hb]
    · rw [if_neg h2]
      by_cases h3 : y = c
      · rw [if_pos h3, h3, hc]
      · rw [if_neg h3]

/-- between the turns of the eviction -/
def EvJ (w : World) (D : KD) (ρ : List Row) (ks : List Int) (okd : Obj) (pl : Addr × Obj) (k : Int) (tk : Tok) (v : Int) (tv : Tok) (i : Nat) (m : Str → Option Value) (news : List (Addr × Obj)) : Prop :=
  ∃ oc ou ck uk, news = [(D.kx, instObj 67 D.kd), (D.kd, okd), (D.cd, oc), (D.ud, ou), pl] ∧
    oc.IsDictOf (intKind PySem.Challenge.rw_fh5009_01.row.prog w) ck ∧ Vals ck (kv (dropAll (ks.take i) ρ)) ∧ ou.IsDictOf (intKind PySem.Challenge.rw_fh5009_01.row.prog w) uk ∧ Vals uk (kc (dropAll (ks.take i) ρ)) ∧
    m (Str.ofString "self") = some (.ref D.kx) ∧ m (Str.ofString "k") = some (.int k tk) ∧ m (Str.ofString "v") = some (.int v tv)

theorem keep_set_full (C : CacheAt w s.heap D ρ) (hok : D.Ok) (off : Off h₀ L D.adr) (B : Below A₀ base outer h₀) (F : Fr h₀ L s.heap m) (X₀ : (Mine.hd.heap_39 w.params).In h₀) (T : Top p loose mean mg mb h₀)
    (hA : A.frames = some (env :: outer)) (hf : env.frame = some L) (hke : env.scope.kind = .function) (hroom : A.depth < recursionLimit) (hsz : ρ.length < 64) (hh : A.handled = none) (hfull : D.size ≤ (ρ.length : Int)) (hc1 : 1 ≤ D.chop) (hcs : D.chop ≤ D.size)
    (h : ∀ h' tk, CacheAt w h' D (put k v (evictN D.chop.toNat ρ)) → ButA D.adr s.heap h' → Q .none { s with heap := h', toks := tk }) :
    wpAny (model PySem.Challenge.rw_fh5009_01.row.prog w) A (call (.ref 57) [.ref D.kx, .int k kt, .int v tv]) Q E s := by
  obtain ⟨tn, oc, ou, ck, uk, N, hc, vc, hu, vu⟩ := C.news off
  have nd := C.nodup
  clear C
  obtain ⟨o1, o2, o3, l1, l2⟩ := hok
  revert X₀; k_fill; intro X₀
  refine wpAny_call ?_
  refine' def_S (binds := [(Str.ofString "self", .ref D.kx), (Str.ofString "k", .int k kt), (Str.ofString "v", .int v tv)]) ?k1 ?k2 ?k3 ?k4 ?k5 ?kA ?kF ?kK ?k6 ?k7 ?k8 ?k9 ?kB ?_ ?c5 ?c2 ?c3 ?c4
  walk_at "MINE enter"
  intro g' L' h' FG' F' N' B' X' T' O' G'
  try dsimp only
  iterate 10 walk_at "MINE step"
  refine ge_int (wpAny_truthy_bool ?_)
  rw [if_pos (by simpa using hfull)]
  iterate 16 walk_at "MINE step"
  have hDu : h'.DictOf (PySem.intKind PySem.Challenge.rw_fh5009_01.row.prog w) D.ud uk := Heap.dictOf_iff.mpr ⟨ou, (N' _ (.tail _ (.tail _ (.tail _ (.head _))))).1, hu⟩
  obtain ⟨es, ep, hod⟩ := dict_obj hDu
  refine bg_attr hod ?_
  walk_at "MINE step"
  have hq := Heap.get?_push_size h' (o := boundGet D.ud) rfl
  have hold := Old.push h' (boundGet D.ud)
  have hD1 : (h'.push (boundGet D.ud)).DictOf (PySem.intKind PySem.Challenge.rw_fh5009_01.row.prog w) D.ud uk := hDu.keep hold
  have hkeys : uk.map (·.1) = keysOf ρ := by rw [vu.keys, keys_kc]
  refine srt_dict (cnt := cntOf ρ) hD1 l2 hh (by rw [vu.length, length_kc]; exact hsz) (fun k t hk h2 tk2 ho2 => ?turn) (fun Ba h2 tk2 ks out c2 ho2 hB0 hB hI hS => ?cont)
  case turn =>
    obtain ⟨t1, hv1⟩ := cntOf_at nd vu (k := k) (by rw [← hkeys]; exact hk)
    exact bg_run (ho2 _ _ hq) l2 (hD1.keep ho2) hv1 ⟨⟨t1, rfl⟩, h2, _, rfl, fun _ _ e => e⟩
  case cont =>
  have hold2 := hold.trans ho2
  have F2 := F'.keeps hold2
  have N2 : News g' L' h2 [(D.kx, instObj 67 D.kd), (D.kd, dictOf (D.es (ρ.length : Int) tn) 5), (D.cd, oc), (D.ud, ou), (Ba, PySem.W.listOf out c2)] := by
    have hfr : h'.get? Ba = none := by
      cases e : h'.get? Ba with
      | none => rfl
      | some o => rw [hold _ _ e] at hB0; cases hB0
    intro p hp
    have hp' : p ∈ [(D.kx, instObj 67 D.kd), (D.kd, dictOf (D.es (ρ.length : Int) tn) 5), (D.cd, oc), (D.ud, ou)] ++ [(Ba, PySem.W.listOf out c2)] := hp
    rcases List.mem_append.mp hp' with hp1 | hp1
    · exact ⟨hold2 _ _ (N' p hp1).1, (N' p hp1).2⟩
    · rw [List.mem_singleton.mp hp1]
      refine ⟨hB, fun q => ?_, ?_⟩
      · obtain ⟨oL, _, _, hL, _⟩ := F'.ns
        have q' : Ba = L' := q
        rw [← q', hfr] at hL; cases hL
      · cases e : g'.get? Ba with
        | none => rfl
        | some o => rw [F'.keep _ _ e] at hfr; cases hfr
  rw [hkeys] at hS
  clear hD1 hq hod hDu hold ho2 hB0 hB hold2 F' N'
  iterate 3 walk_at "MINE step"
  refine For_invV g' rfl rfl ?_
  iterate 9 walk_at "MINE step"
  rename Fr _ _ _ _ => F3
  rename News _ _ _ _ => N3
  have hout : out = out.toList.toArray := by simp
  rw [hout] at N3
  refine kmk_slice F3 N3 (its := out.toList.toArray) ⟨_, (N3 _ (.tail _ (.tail _ (.tail _ (.tail _ (.head _)))))).1, rfl, _, rfl⟩ .none (.int _ _) ?_ (by with_unfolding_all rfl) (by intro _; with_unfolding_all rfl) ?_
  · intro SL h4 F4 N4 l4
    have hn0 : 0 ≤ D.chop := by omega
    have hIt := kmk_upto (vs := out.toList) hI hn0
    obtain ⟨ws, hws⟩ : ∃ ws : List Value, slicePick out.toList.toArray none (some D.chop) none = ws.toArray := ⟨(slicePick out.toList.toArray none (some D.chop) none).toList, by simp⟩
    rw [hws] at hIt N4
    have hIt' : IntsAre ws (ks.take D.chop.toNat) := hIt
    have s1 : @LT.lt Nat _ D.kx SL := l4 _ (.head _)
    have s2 : @LT.lt Nat _ D.kd SL := l4 _ (.tail _ (.head _))
    have s3 : @LT.lt Nat _ D.cd SL := l4 _ (.tail _ (.tail _ (.head _)))
    have s4 : @LT.lt Nat _ D.ud SL := l4 _ (.tail _ (.tail _ (.tail _ (.head _))))
    have N5 : News g' L' h4 [(D.kx, instObj 67 D.kd), (D.kd, dictOf (D.es (ρ.length : Int) tn) 5), (D.cd, oc), (D.ud, ou), (SL, PySem.W.listOf ws.toArray 0)] := fun p hp => N4 p (by
      simp only [List.mem_cons, List.not_mem_nil, or_false] at hp ⊢
      rcases hp with h | h | h | h | h <;> simp [h])
    have hnl : (ks.take D.chop.toNat).length = D.chop.toNat := by
      have := hS.1.length_eq
      have e1 : (keysOf ρ).length = ρ.length := by simp [keysOf]
      rw [List.length_take]; omega
    refine iter_invNL (l := SL) (vs := ws) (nn := 0) (EvJ w D ρ (ks.take D.chop.toNat) (dictOf (D.es (ρ.length : Int) tn) 5) (SL, PySem.W.listOf ws.toArray 0) k kt v tv) hh (.tail _ (.tail _ (.tail _ (.tail _ (.head _))))) hIt' F4 N5 ⟨oc, ou, ck, uk, rfl, hc, vc, hu, vu, by with_unfolding_all rfl, by with_unfolding_all rfl, by with_unfolding_all rfl⟩ ?_ ?_
    · clear N3 N4 N5 F3 F4 hc hu vc vu l4 N hIt h
      rintro i n t m₁ news₁ h5 tk5 own hin hadr hsep hmem ⟨oc, ou, ck, uk, rfl, hc, vc, hu, vu, e1, e2, e3⟩ F5 N5
      rw [chain3 e1 e2 e3] at F5
      simp only [List.cons_append, List.nil_append] at N5
      have hnd : (ks.take D.chop.toNat).Nodup := (hS.1.nodup_iff.mpr nd).sublist (List.take_sublist _ _)
      have hnk : n ∈ keysOf (dropAll ((ks.take D.chop.toNat).take i) ρ) := mem_dropAll _ (hS.1.mem_iff.mp (List.mem_of_mem_take (List.mem_of_getElem? hin))) (not_mem_take hnd hin)
      have hle := length_dropAll_le ((ks.take D.chop.toNat).take i) ρ
      have edr : dropAll ((ks.take D.chop.toNat).take (i + 1)) ρ = drop n (dropAll ((ks.take D.chop.toNat).take i) ρ) := by rw [← dropAll_snoc, List.take_add_one, hin]; rfl
      have oc1 : ∀ p ∈ own, p.1 ≠ D.cd := hsep.ne (.tail _ (.tail _ (.head _)))
      have oc2 : ∀ p ∈ own, p.1 ≠ D.ud := hsep.ne (.tail _ (.tail _ (.tail _ (.head _))))
      iterate 8 walk_at "MINE step"
      refine kob_del F5 N5 (.tail (by k_ne) (.tail (by k_ne) (.head (by k_all)))) hc (intKind_is _ _ _ _) (by rw [vc.isSome, keys_kv]; simpa using hnk) (by rw [vc.length, length_kv, sizeLine_eq]; omega) ?_
      intro h6 oc2 F6 N6 hc2
      dsimp only
      iterate 10 walk_at "MINE step"
      refine kob_del F6 N6 (.tail (by k_ne) (.tail (by k_ne) (.tail (by k_ne) (.head (by k_all))))) hu (intKind_is _ _ _ _) (by rw [vu.isSome, keys_kc]; simpa using hnk) (by rw [vu.length, length_kc, sizeLine_eq]; omega) ?_
      intro h7 ou2 F7 N7 hu2
      dsimp only
      iterate 3 walk_at "MINE step"
      refine InvEndN.intro (nx := [(D.kx, instObj 67 D.kd), (D.kd, dictOf (D.es (ρ.length : Int) tn) 5), (D.cd, oc2), (D.ud, ou2), (SL, PySem.W.listOf ws.toArray 0)]) F7 N7 ⟨.tail _ (.tail _ (.tail _ (.tail _ (.head _)))), oc2, ou2, _, _, rfl, hc2, ?_, hu2, ?_, by with_unfolding_all rfl, by with_unfolding_all rfl, by with_unfolding_all rfl⟩ rfl (fun p hp => ?_) (fun p hp => ?_)
      · rw [edr, ← kv_drop]; exact vc.without
      · rw [edr, ← kc_drop]; exact vu.without
      · simp only [List.mem_cons, List.not_mem_nil, or_false] at hp ⊢
        rcases hp with h | h | h | h | h <;> simp [h]
      · simp [hp]
    · clear N3 N4 N5 F3 F4 hc hu vc vu l4 N hIt
      rintro m₁ news₁ h5 tk5 hmem ⟨oc, ou, ck, uk, rfl, hc, vc, hu, vu, e1, e2, e3⟩ F5 N5
      rw [chain3 e1 e2 e3] at F5
      have ecut : ((ks.take D.chop.toNat).take (ks.take D.chop.toNat).length) = ks.take D.chop.toNat := List.take_length
      have hev : dropAll (ks.take D.chop.toNat) ρ = evictN D.chop.toNat ρ := dropAll_eq_evictN D.chop.toNat nd (cntOf_row nd) hS (by omega)
      rw [ecut, hev] at vc vu
      obtain ⟨nd1, hlen1, _⟩ := evictN_props D.chop.toNat nd (show D.chop.toNat ≤ ρ.length by omega)
      clear hmem hS hI hIt' hnl
      generalize evictN D.chop.toNat ρ = ρ₁ at vc vu nd1 hlen1 h hev
      have N6 : News g' L' h5 [(D.kx, instObj 67 D.kd), (D.kd, dictOf (D.es (ρ.length : Int) tn) 5), (D.cd, oc), (D.ud, ou)] := fun p hp => N5 p (by
        simp only [List.mem_cons, List.not_mem_nil, or_false] at hp ⊢
        rcases hp with h | h | h | h <;> simp [h])
      clear N5
      dsimp only
      iterate 17 walk_at "MINE step"
      rename News _ _ _ _ => N7
      rename Fr _ _ _ _ => F7
      refine wpAny_notIn_of (intKind_is _ _ _ _) l1 (kda_dict N7 (by k_mem) hc).mapOf ?_
      rw [vc.isSome, keys_kv]
      refine wpAny_truthy_bool ?_
      by_cases hk : k ∈ keysOf ρ₁
      · rw [if_neg (by simpa using hk)]
        iterate 9 walk_at "MINE step"
        refine kda_set F7 N7 (.tail (by k_ne) (.tail (by k_ne) (.head (by k_all)))) hc (intKind_is _ _ _ _) (by rw [vc.length, length_kv, sizeLine_eq]; omega) ?_
        intro h2 oc2 F2 N2 hc2
        dsimp only
        iterate 2 walk_at "MINE step"
        have e : ((put k v ρ₁).length : Int) = (ρ.length : Int) - D.chop := by rw [length_put_old hk]; omega
        refine h _ _ ⟨(N2 _ (.head _)).1, ?_, ⟨oc2, _, (N2 _ (.tail _ (.tail _ (.head _)))).1, hc2, ?_⟩, ⟨ou, _, (N2 _ (.tail _ (.tail _ (.tail _ (.head _))))).1, hu, ?_⟩, nodup_put nd1⟩ (fr_keeps_but G'.butA F2)
        · rw [e]; exact ⟨_, (N2 _ (.tail _ (.head _))).1⟩
        · rw [← stored_kv]; exact vc.stored _ _ _
        · rw [kc_put_old hk]; exact vu
      · rw [if_pos (by simpa using hk)]
        iterate 15 walk_at "MINE step"
        rename News _ _ _ _ => N2
        rename Fr _ _ _ _ => F2
        refine kda_set F2 N2 (.tail (by k_ne) (.tail (by k_ne) (.tail (by k_ne) (.head (by k_all))))) hu (intKind_is _ _ _ _) (by rw [vu.length, length_kc, sizeLine_eq]; omega) ?_
        intro h3 ou2 F3 N3 hu2
        dsimp only
        iterate 9 walk_at "MINE step"
        refine kda_set F3 N3 (.tail (by k_ne) (.tail (by k_ne) (.head (by k_all)))) hc (intKind_is _ _ _ _) (by rw [vc.length, length_kv, sizeLine_eq]; omega) ?_
        intro h4 oc2 F4 N4 hc2
        dsimp only
        iterate 2 walk_at "MINE step"
        have e : ((put k v ρ₁).length : Int) = (ρ.length : Int) - D.chop + 1 := by rw [length_put_new hk]; omega
        refine h _ _ ⟨(N4 _ (.head _)).1, ?_, ⟨oc2, _, (N4 _ (.tail _ (.tail _ (.head _)))).1, hc2, ?_⟩, ⟨ou2, _, (N4 _ (.tail _ (.tail _ (.tail _ (.head _))))).1, hu2, ?_⟩, nodup_put nd1⟩ (fr_keeps_but G'.butA F4)
        · rw [e]; exact ⟨_, (N4 _ (.tail _ (.head _))).1⟩
        · rw [← stored_kv]; exact vc.stored _ _ _
        · rw [← stored_kc_new v hk]; exact vu.stored _ _ _
  · have := hI.length
    have e1 : (keysOf ρ).length = ρ.length := by simp [keysOf]
    have e2 := hS.1.length_eq
    rw [List.size_toArray, sizeLine_eq]
    omega
end
end Mine

-- FhClos
theorem Mine.anewFhClos : True := by (w_top off); exact trivial
namespace Mine
open PySem PySem.W PyProof.Rows PySem.Calls

section
variable {prog : Program} {w : World} {A₀ A : Around} {s : Shared} {base h₀ : Heap} {outer : List Env} {L : Addr} {m mg mb : Str → Option Value} {env : Env} {news : List (Addr × Obj)}
  {R : Result → Shared → Prop} {name qual : Str} {params : Arguments} {body : List Stmt} {scope : Scope} {cl : List (Str × Addr)} {dV kV doc pm cdv ct : Value} {an : Option Addr} {fo : Obj} {f : Addr} {args : Args} {x : Str} {v : Value}

abbrev frameObj : Obj := { cls := .type "frame", data := .dict #[] }
abbrev cellObj (v : Option Value) : Obj := { cls := .type "cell", data := .cell v }

/-- a closure with one cell of its own, empty at the start -/
theorem callX_cell0 (B : Below A₀ base outer h₀) (F : Fr h₀ L s.heap m) (N : News h₀ L s.heap news) (hlim : h₀.NoLimit) (hA : A.frames = some (env :: outer)) (hf : env.frame = some L) (hke : env.scope.kind = .function)
    (ho : s.heap.get? f = some fo) (hd : fo.data = .func (fnX name qual params body scope cl dV kV doc pm an cdv ct)) (hcd : s.heap.CodeRec cdv qual) (hroom : A.depth < recursionLimit)
    (hbind : BindsTo s (fnX name qual params body scope cl dV kV doc pm an cdv ct) args [])
    (hcf : ∀ n, cellsFrom n scope.names cl = (x, n) :: cl) (hpc : ∀ h : Heap, pushCells h scope.names = h.push (cellObj none))
    (h : ∀ g L' h₁, Fr h₀ L g m → Fr g L' h₁ (fun _ => none) → News g L' h₁ ((L' + 1, cellObj none) :: news) → Below A base (env :: outer) g → h₀.StaysIn g → Old s.heap h₁ → ButOld news s.heap g → L' = s.heap.objs.size →
      wpAny (model prog w) (A.deeper (envX qual scope L' f cdv ((x, L' + 1) :: cl))) (execs body (envX qual scope L' f cdv ((x, L' + 1) :: cl)))
        (fun fl s' => R (.ok (.ret (match fl with | .ret v => v | _ => .none))) s')
        (fun e s' => wpAny (model prog w) (A.deeper (envX qual scope L' f cdv ((x, L' + 1) :: cl))) (leaving (envX qual scope L' f cdv ((x, L' + 1) :: cl)) e) (fun _ s'' => R (.error e) s'') (fun e' s'' => R (.error e') s'') s')
        { s with heap := h₁ })
    (hco : scope.isCoroutine = false) (hgen : scope.isGenerator = false) (hk : scope.kind = .function) : codeAny (model prog w) A (.call (.ref f) args) R s := by
  obtain ⟨FG, BG, st, _⟩ := groundX (R := R) B F N hA hf hke
  refine codeAny_call_function hroom ho hd hco hgen rfl hcd (hbind _ _ _ _ ?_)
  simp only [newFunctionEnv, Option.isSome_none, Bool.false_eq_true, if_false]
  refine wpAny_bind (wpAny_alloc ?_)
  refine wpAny_bind (wpAny_layCells _ (fun name kind cells => by cases hkc : kind == NameKind.cell <;> simp [hkc]) _ _ _ _ ?_)
  rw [show ({ s with heap := s.heap.push { cls := .type "frame", data := .dict #[] } } : Shared).heap.objs.size = s.heap.objs.size + 1 from Heap.size_push ..]
  show wpAny _ _ _ _ _ { s with heap := pushCells (s.heap.push frameObj) scope.names }
  rw [hcf, hpc]
  rw [List.forIn_nil]
  have old1 : Old s.heap (s.heap.push frameObj) := Old.push _ _
  have old2 : Old (s.heap.push frameObj) ((s.heap.push frameObj).push (cellObj none)) := Old.push _ _
  have hns : ((s.heap.push frameObj).push (cellObj none)).Ns s.heap.objs.size (fun _ => none) := (Heap.Ns.new s.heap (.type "frame")).keeps fun b o e => old2 b o e
  have hsz : (s.heap.push frameObj).objs.size = s.heap.objs.size + 1 := Heap.size_push ..
  refine wpAny_bind (wpAny_pure (wpAny_pure ⟨(hlim.keeps F.keep).keeps fun b o e => old2 b o (old1 b o e), codeAny_func ?_⟩))
  refine h _ s.heap.objs.size _ FG ⟨hns, fun b o e => old2 b o (old1 b o (of_hideAll _ e)), Nat.le_of_eq (hideAll_size _ _)⟩ (fun p hp => ?_) BG st (fun b o e => old2 b o (old1 b o e)) (fun b o n e => hideAll_get _ e fun q => by obtain ⟨p, hp, e'⟩ := List.mem_map.mp q; exact n p hp e') rfl
  rcases List.mem_cons.mp hp with rfl | hp
  · refine ⟨?_, Nat.succ_ne_self _, ?_⟩
    · have := Heap.get?_push_size (s.heap.push frameObj) (o := cellObj none) rfl
      rw [hsz] at this; exact this
    · exact get_none_of_ge (by rw [hideAll_size]; exact Nat.le_succ _)
  · exact ⟨old2 _ _ (old1 _ _ (N p hp).1), Nat.ne_of_lt (Heap.lt_size (N p hp).1), hideAll_none _ (List.mem_map_of_mem hp)⟩

/-- a closure with one cell of its own: its only parameter -/
theorem callX_cell1 (B : Below A₀ base outer h₀) (F : Fr h₀ L s.heap m) (N : News h₀ L s.heap news) (hlim : h₀.NoLimit) (hA : A.frames = some (env :: outer)) (hf : env.frame = some L) (hke : env.scope.kind = .function)
    (ho : s.heap.get? f = some fo) (hd : fo.data = .func (fnX name qual params body scope cl dV kV doc pm an cdv ct)) (hcd : s.heap.CodeRec cdv qual) (hroom : A.depth < recursionLimit)
    (hbind : BindsTo s (fnX name qual params body scope cl dV kV doc pm an cdv ct) args [(x, v)])
    (hcf : ∀ n, cellsFrom n scope.names cl = (x, n) :: cl) (hpc : ∀ h : Heap, pushCells h scope.names = h.push (cellObj none)) (hx : scope.names.lookup x = some .cell)
    (h : ∀ g L' h₁ oc, Fr h₀ L g m → Fr g L' h₁ (fun _ => none) → News g L' h₁ ((L' + 1, oc) :: news) → oc.data = .cell (some v) → Below A base (env :: outer) g → h₀.StaysIn g → Old s.heap h₁ → ButOld news s.heap g → L' = s.heap.objs.size →
      wpAny (model prog w) (A.deeper (envX qual scope L' f cdv ((x, L' + 1) :: cl))) (execs body (envX qual scope L' f cdv ((x, L' + 1) :: cl)))
        (fun fl s' => R (.ok (.ret (match fl with | .ret v => v | _ => .none))) s')
        (fun e s' => wpAny (model prog w) (A.deeper (envX qual scope L' f cdv ((x, L' + 1) :: cl))) (leaving (envX qual scope L' f cdv ((x, L' + 1) :: cl)) e) (fun _ s'' => R (.error e) s'') (fun e' s'' => R (.error e') s'') s')
        { s with heap := h₁ })
    (hco : scope.isCoroutine = false) (hgen : scope.isGenerator = false) (hk : scope.kind = .function) : codeAny (model prog w) A (.call (.ref f) args) R s := by
  obtain ⟨FG, BG, st, _⟩ := groundX (R := R) B F N hA hf hke
  refine codeAny_call_function hroom ho hd hco hgen rfl hcd (hbind _ _ _ _ ?_)
  simp only [newFunctionEnv, Option.isSome_none, Bool.false_eq_true, if_false]
  refine wpAny_bind (wpAny_alloc ?_)
  refine wpAny_bind (wpAny_layCells _ (fun name kind cells => by cases hkc : kind == NameKind.cell <;> simp [hkc]) _ _ _ _ ?_)
  rw [show ({ s with heap := s.heap.push { cls := .type "frame", data := .dict #[] } } : Shared).heap.objs.size = s.heap.objs.size + 1 from Heap.size_push ..]
  show wpAny _ _ _ _ _ { s with heap := pushCells (s.heap.push frameObj) scope.names }
  rw [hcf, hpc]
  rw [List.forIn_cons]
  have old1 : Old s.heap (s.heap.push frameObj) := Old.push _ _
  have old2 : Old (s.heap.push frameObj) ((s.heap.push frameObj).push (cellObj none)) := Old.push _ _
  have hns : ((s.heap.push frameObj).push (cellObj none)).Ns s.heap.objs.size (fun _ => none) := (Heap.Ns.new s.heap (.type "frame")).keeps fun b o e => old2 b o e
  have hsz : (s.heap.push frameObj).objs.size = s.heap.objs.size + 1 := Heap.size_push ..
  have hcell : ((s.heap.push frameObj).push (cellObj none)).get? (s.heap.objs.size + 1) = some (cellObj none) := by
    have := Heap.get?_push_size (s.heap.push frameObj) (o := cellObj none) rfl
    rw [hsz] at this; exact this
  refine wpAny_bind (wpAny_bind (wpAny_bind ?_))
  refine wpAny_storeName_cell (env := envX qual scope s.heap.objs.size f cdv ((x, s.heap.objs.size + 1) :: cl)) hk hx (by simp [List.lookup]) ⟨_, hcell, rfl⟩ fun h' hv hs => ?_
  obtain ⟨oc, hoc, hocd⟩ := hv
  refine wpAny_pure (wpAny_pure ?_)
  have old3 : ∀ b o, s.heap.get? b = some o → h'.get? b = some o := fun b o e => (hs.2 b (Nat.ne_of_lt (Nat.lt_succ_of_lt (Heap.lt_size e)))).trans (old2 b o (old1 b o e))
  refine wpAny_pure ⟨(hlim.keeps F.keep).keeps old3, codeAny_func ?_⟩
  refine h _ s.heap.objs.size _ oc FG ⟨hns.sameBut hs (Nat.ne_of_lt (Nat.lt_succ_self _)), fun b o e => old3 b o (of_hideAll _ e), Nat.le_of_eq (hideAll_size _ _)⟩ (fun p hp => ?_) hocd BG st old3 (fun b o n e => hideAll_get _ e fun q => by obtain ⟨p, hp, e'⟩ := List.mem_map.mp q; exact n p hp e') rfl
  rcases List.mem_cons.mp hp with rfl | hp
  · exact ⟨hoc, Nat.succ_ne_self _, get_none_of_ge (by rw [hideAll_size]; exact Nat.le_succ _)⟩
  · exact ⟨old3 _ _ (N p hp).1, Nat.ne_of_lt (Heap.lt_size (N p hp).1), hideAll_none _ (List.mem_map_of_mem hp)⟩
end
end Mine

-- FhEnum
theorem Mine.anewFhEnum : True := by (w_top off); exact trivial
namespace Mine
open PySem PySem.W PyProof.Rows PySem.Calls

section
variable {prog : Program} {w : World} {A : Around} {E : Value → Shared → Prop} {env : Env}

theorem range_filter_succ (p : Nat → Bool) (i : Nat) : ((List.range (i + 1)).filter p).map Int.ofNat = if p i = true then ((List.range i).filter p).map Int.ofNat ++ [(i : Int)] else ((List.range i).filter p).map Int.ofNat := by
  rw [List.range_succ, List.filter_append, List.map_append]
  by_cases h : p i = true
  · rw [if_pos h]; simp [h]
  · rw [if_neg h]; simp [h]

theorem intsAre_snoc {vs : List Value} {ns : List Int} {n : Int} {t : Tok} (h : IntsAre vs ns) : IntsAre (vs ++ [.int n t]) (ns ++ [n]) := by
  induction h with
  | nil => exact .cons _ _ .nil
  | cons n' t' _ ih => exact .cons _ _ ih

theorem compEnum {s : Shared} {iter c : PySem.Expr} {xi xv : Str} {pi pv tp pe : Pos} {kk : Nat} {scope : Scope} {cl : List (Str × Addr)} {pos : Pos} {Q : Value → Shared → Prop} (p : Nat → Bool) (items : Array Value) (hh : A.handled = none)
    (hclos : closureFor scope env = pure cl) (hcell : ∀ y ∈ scope.names, y.2 ≠ .cell) (hkind : scope.kind = .function)
    (hnames : ∀ y ∈ scope.names, y.2 = .local → scope.names.lookup y.1 = some .local) (hxi : scope.names.lookup xi = some .local) (hxv : scope.names.lookup xv = some .local) (hiv : ¬ xi = xv) (hdbg : (xi == ("__debug__" : Str)) = false) (hsz : items.size ≤ sizeLine)
    (h : wpAny (model prog w) A (eval iter env) (fun x s₁ => ∃ e it l, x = .ref e ∧ IsEnum s₁.heap e it 0 .none ∧ s₁.heap.IsListIter it l 0 ∧ s₁.heap.IsList l items ∧ e ≠ it ∧ l ≠ e ∧ l ≠ it ∧ Keeps s s₁ ∧ s.heap.get? e = none ∧ s.heap.get? it = none) E s)
    (htest : ∀ C (i : Nat) v t (s₃ : Shared) m₃ E', items[i]? = some v → s₃.heap.Ns C m₃ → m₃ xi = some (.int i t) → m₃ xv = some v → Old s.heap s₃.heap → s.heap.get? C = none →
      wpAny (model prog w) A (isTrue c (compEnvC scope cl C env) (eval c (compEnvC scope cl C env))) (fun ok s₄ => ok = p i ∧ Keeps s₃ s₄) E' s₃)
    (hQ : ∀ D h' tk ys, s.heap.get? D = none → h'.PlainList D ys → IntsAre ys.toList (((List.range items.size).filter p).map Int.ofNat) → Old s.heap h' → Q (.ref D) { s with heap := h', toks := tk })
    (hs : ∀ x, foldedSetIterable iter env x = pure x := by intro _; rfl) :
    wpAny (model prog w) A (eval (.ListComp (.Name xi pe) [⟨.Tuple [.Name xi pi, .Name xv pv] kk tp, iter, [c], 0⟩] scope pos) env) Q E s := by
  rw [eval_ListComp]
  refine wpAny_comprehension_free (use := none) rfl hs hclos hkind hnames (wpAny_mono h (fun x s₂ h₂ => ?_) fun _ _ e => e)
  obtain ⟨I, it, l, rfl, he, hit, hl, hei, hle, hli, ⟨H₂, tk₂, rfl, old₂⟩, hI₀, hit₀⟩ := h₂
  have W := WalksT.enumerate (prog := prog) (w := w) hh I it l hei hle hli items
  refine W.self 0 _ _ _ ⟨⟨_, he⟩, hit, hl⟩ ?_
  refine wpAny_newObj_type (wpAny_newFunctionEnv hcell (by intro y hy; simp at hy) (fun h₁ hns₁ hsb₁ => ?_) hkind)
  dsimp only at hns₁ hsb₁ he hit hl old₂ ⊢
  generalize hH3 : H₂.push { cls := .type "list", dict := none, data := .seq ([] : List Value).toArray } = H3 at hns₁ hsb₁ ⊢
  have hC : H3.objs.size = H₂.objs.size + 1 := by rw [← hH3, Heap.size_push]
  have hDC : H₂.objs.size ≠ H3.objs.size := by rw [hC]; exact Nat.ne_of_lt (Nat.lt_succ_self _)
  have below : ∀ b, b < H₂.objs.size → b ≠ H3.objs.size ∧ b ≠ H₂.objs.size := fun b hb => ⟨by rw [hC]; exact Nat.ne_of_lt (Nat.lt_succ_of_lt hb), Nat.ne_of_lt hb⟩
  have old : ∀ b o, H₂.get? b = some o → h₁.get? b = some o := fun b o e => hsb₁.extBut b o (below b (Heap.lt_size e)).1 (Heap.get?_push_of_some _ (hH3 ▸ Heap.get?_push_of_some _ e))
  have hacc : h₁.PlainList H₂.objs.size #[] := ⟨_, hsb₁.extBut _ _ hDC (Heap.get?_push_of_some _ (hH3 ▸ Heap.get?_push_size _ rfl))⟩
  have hIlt : I < H₂.objs.size := Heap.lt_size he
  have hitlt : it < H₂.objs.size := by obtain ⟨_, x, _⟩ := hit; exact Heap.lt_size x
  have hllt : l < H₂.objs.size := by obtain ⟨_, x, _⟩ := hl; exact Heap.lt_size x
  have fresh₀ : ∀ a, H₂.objs.size ≤ a → s.heap.get? a = none := fun a ha => by
    cases e : s.heap.get? a with
    | none => rfl
    | some o' => exact absurd (Heap.lt_size (old₂ _ _ e)) (Nat.not_lt.mpr ha)
  have hD₀ : s.heap.get? H₂.objs.size = none := fresh₀ _ (Nat.le_refl _)
  have hC₀ : s.heap.get? H3.objs.size = none := fresh₀ _ (by rw [hC]; exact Nat.le_succ _)
  have apart : ∀ b o, s.heap.get? b = some o → b ∉ [I, it] ∧ b ≠ H3.objs.size ∧ b ≠ H₂.objs.size := fun b o e =>
    ⟨(fun q => by
      simp only [List.mem_cons, List.not_mem_nil, or_false] at q
      rcases q with q | q
      · rw [q, hI₀] at e; cases e
      · rw [q, hit₀] at e; cases e),
     (fun q => by rw [q, hC₀] at e; cases e), (fun q => by rw [q, hD₀] at e; cases e)⟩
  have offw : ∀ b, H₂.objs.size ≤ b → b ∉ [I, it, l] := fun b hb q => by
    simp only [List.mem_cons, List.not_mem_nil, or_false] at q
    rcases q with rfl | rfl | rfl
    · exact absurd hIlt (Nat.not_lt.mpr hb)
    · exact absurd hitlt (Nat.not_lt.mpr hb)
    · exact absurd hllt (Nat.not_lt.mpr hb)
  have offw2 : ∀ b, H₂.objs.size ≤ b → b ∉ [I, it] := fun b hb q => offw b hb (W.sub _ q)
  have hCle : H₂.objs.size ≤ H3.objs.size := by rw [hC]; exact Nat.le_succ _
  have onw : ∀ b ∈ [I, it, l], b ≠ H3.objs.size ∧ b ≠ H₂.objs.size := fun b hb => ⟨fun q => offw _ hCle (q ▸ hb), fun q => offw _ (Nat.le_refl _) (q ▸ hb)⟩
  have hst₁ : _ := W.frame 0 H₂ h₁ ⟨⟨_, he⟩, hit, hl⟩ fun b _ o e => old b o e
  have loop : ∀ s₃ : Shared, s₃ = { s with heap := h₁, toks := tk₂ + ([] : List (Str × Value)).length } →
      codeAny (model prog w) A (.compLoop (.ListComp (.Name xi pe) [⟨.Tuple [.Name xi pi, .Name xv pv] kk tp, iter, [c], 0⟩] scope pos) 0 (.ref I) (.ref H₂.objs.size) (compEnvC scope cl H3.objs.size env))
        (compPost (model prog w) A E none Q (.ref H₂.objs.size) H3.objs.size) s₃ := by
    rintro s₃ rfl
    refine kct_loop
      (fun k s' => ∃ h' tk i ys m', s' = { s with heap := h', toks := tk } ∧ i ≤ items.size ∧ k = items.size + 1 - i ∧ ((∃ old, IsEnum h' I it i old) ∧ h'.IsListIter it l i ∧ h'.IsList l items) ∧ h'.Ns H3.objs.size m' ∧
        h'.PlainList H₂.objs.size ys ∧ IntsAre ys.toList (((List.range i).filter p).map Int.ofNat) ∧ ys.size ≤ i ∧ Old s.heap h') ?_ (items.size + 1)
      ⟨h₁, _, 0, #[], _, rfl, Nat.zero_le _, rfl, hst₁, hns₁, hacc, .nil, Nat.le_refl _, fun b o e => old b o (old₂ b o e)⟩
    rintro k s' ⟨h', tk, i, ys, m', rfl, hi, rfl, hst', hn', ha', hI', hys', old'⟩
    by_cases hlt : i < items.size
    · refine W.item i _ _ _ hlt hst' fun T vals h₂ tk₂ hP hTn hT hMd hk₂ => ?_
      obtain ⟨t, x, hx, rfl⟩ := hP
      refine W.go _ _ _ i _ _ _ _ hMd fun h₃ hst₃ hk₃ => ?_
      have hTw := W.apart _ _ _ hMd
      have up₃ : ∀ b o, b ∉ [I, it] → h'.get? b = some o → h₃.get? b = some o := fun b o hb e => hk₃ b o hb (hk₂ b o hb e)
      have hT₃ : h₃.IsTuple T #[.int i t, x] := by obtain ⟨o, ho, r⟩ := hT; exact ⟨o, hk₃ _ _ hTw ho, r⟩
      refine kcp_assign (env := compEnvC scope cl H3.objs.size env) hh hT₃ (lookup_relabel_local hxi) (lookup_relabel_local hxv) (by simp [compEnvC, relabel, hkind]) (hn'.at' fun o e => up₃ _ o (offw2 _ hCle) e) fun h₄ tk₄ hn₄ hs₄ => ?_
      have up₄ : ∀ b o, b ∉ [I, it] → b ≠ H3.objs.size → h'.get? b = some o → h₄.get? b = some o := fun b o h1 h2 e => hs₄ b o h2 (up₃ b o h1 e)
      have old₄ : Old s.heap h₄ := fun b o e => up₄ b o (apart b o e).1 (apart b o e).2.1 (old' b o e)
      refine wpAny_mono (htest H3.objs.size i x t { s with heap := h₄, toks := tk₄ } _ _ hx hn₄ (by simp [hiv]) (by simp) old₄ hC₀) (fun ok s₅ h₅ => ?_) fun _ _ e => e
      obtain ⟨rfl, h₅, tk₅, rfl, hk₅⟩ := h₅
      dsimp only at hk₅
      have hst₅ : _ := W.frame (i + 1) h₃ h₅ hst₃ fun b hb o e => hk₅ b o (hs₄ b o (onw b hb).1 e)
      have ha₅ : h₅.PlainList H₂.objs.size ys := ha'.at fun o e => hk₅ _ _ (up₄ _ _ (offw2 _ (Nat.le_refl _)) hDC e)
      have old₅ : Old s.heap h₅ := fun b o e => hk₅ b o (old₄ b o e)
      have hn₅ := hn₄.keeps hk₅
      cases hp : p i with
      | false =>
        simp only [Bool.false_eq_true, if_false]
        refine ⟨items.size + 1 - (i + 1), by omega, h₅, tk₅, i + 1, ys, _, rfl, hlt, rfl, hst₅, hn₅, ha₅, ?_, Nat.le_succ_of_le hys', old₅⟩
        rw [range_filter_succ, if_neg (by simp [hp])]; exact hI'
      | true =>
        simp only [if_true]
        have hxl : (compEnvC scope cl H3.objs.size env).kindOf xi = some .local := lookup_relabel_local hxi
        refine wpAny_Name (wpAny_loadName_local (v := .int i t) hkind hxl hn₅ (by simp [hiv]) ?_) hdbg
        refine wpAny_list_append_plain (hsz := Nat.le_trans hys' (Nat.le_trans hi hsz)) ha₅ fun h₆ ha₆ hs₆ => ?_
        have up₆ : ∀ b o, b ≠ H₂.objs.size → h₅.get? b = some o → h₆.get? b = some o := fun b o h1 e => hs₆.extBut b o h1 e
        refine ⟨items.size + 1 - (i + 1), by omega, h₆, tk₅, i + 1, ys.push (.int i t), _, rfl, hlt, rfl, W.frame (i + 1) h₅ h₆ hst₅ fun b hb o e => up₆ b o (onw b hb).2 e, hn₅.sameBut hs₆ (Ne.symm hDC), ha₆, ?_, by simp; exact hys', fun b o e => up₆ b o (apart b o e).2.2 (old₅ b o e)⟩
        rw [range_filter_succ, if_pos hp, Array.toList_push]; exact intsAre_snoc hI'
    · have hin : i = items.size := by omega
      subst hin
      refine W.done _ _ _ hst' fun h₂ tk₂ hk₂ => ?_
      have hn₂ := hn'.at' fun o e => hk₂ _ o (offw2 _ hCle) e
      refine ⟨_, hn₂, fun h₃ hs₃ => ?_⟩
      exact hQ _ h₃ tk₂ ys hD₀ ((ha'.at fun o e => hk₂ _ o (offw2 _ (Nat.le_refl _)) e).extBut hs₃.extBut hDC) hI' fun b o e => hs₃.extBut b o (apart b o e).2.1 (hk₂ b o (apart b o e).1 (old' b o e))
  exact codeAny_compStart_list (loop _ rfl) (W.self 0 _ _ _ hst₁ (loop _ rfl))
end
end Mine

-- FhWhere
theorem Mine.anewFhWhere : True := by (w_top off); exact trivial
namespace Mine
open PySem PySem.W PyProof.Rows PySem.Calls
def fnBody : Stmt → List Stmt
  | .FunctionDef _ _ b _ _ _ _ _ _ _ => b
  | _ => []
def fnParams : Stmt → Arguments
  | .FunctionDef _ a _ _ _ _ _ _ _ _ => a
  | _ => { posonlyargs := [], args := [], vararg := none, kwonlyargs := [], kw_defaults := [], kwarg := none, defaults := [] }
def fnScope : Stmt → Scope
  | .FunctionDef _ _ _ _ _ _ sc _ _ _ => sc
  | _ => { kind := .function, names := [], isGenerator := false, isCoroutine := false, more := [] }
def nth : List Stmt → Nat → Stmt
  | [], _ => .Pass ⟨0, 0, 0, 0⟩
  | x :: _, 0 => x
  | _ :: r, n + 1 => nth r n
def lawDef : Stmt := nth PySem.Challenge.rw_fh5009_01.row.prog.main.body 4
def drawDef : Stmt := nth (fnBody lawDef) 0
def whereDef : Stmt := nth (fnBody lawDef) 4
def evictDef : Stmt := nth (fnBody lawDef) 5

local macro_rules | `(tactic| walk_at "MINE step") => `(tactic| first | (k_unfold; (try dsimp only)) | (k_end; wrow_close) | walk1 | (dsimp only; walk1) | (leave1; walk_say "STEP leave1"; try dsimp only) | fail "no step")
local macro_rules | `(tactic| k_all) => `(tactic| assumption)

/-- the inner list of a row -/
def RowAt (h : Heap) (a : Addr) (r : Row) : Prop := ∃ t1 t2 t3, h.IsList a #[.int r.1 t1, .int r.2.1 t2, .int r.2.2 t3]
structure PlainAt (h : Heap) (P : Addr) (as : List Addr) (ρ : List Row) : Prop where
  list : h.PlainList P (as.map Value.ref).toArray
  len : as.length = ρ.length
  rows : ∀ (i : Nat) a r, as[i]? = some a → ρ[i]? = some r → RowAt h a r
  nodup : as.Nodup
  off : P ∉ as

theorem RowAt.old {h h' : Heap} {a : Addr} {r : Row} (x : RowAt h a r) (o : Old h h') : RowAt h' a r := by
  obtain ⟨t1, t2, t3, e⟩ := x
  exact ⟨t1, t2, t3, e.at fun _ e => o _ _ e⟩
theorem PlainAt.old {h h' : Heap} {P : Addr} {as : List Addr} {ρ : List Row} (x : PlainAt h P as ρ) (o : Old h h') : PlainAt h' P as ρ :=
  ⟨x.list.at fun _ e => o _ _ e, x.len, fun i a r e e' => (x.rows i a r e e').old o, x.nodup, x.off⟩

section
variable {prog : Program} {w : World} {A : Around} {s : Shared} {env : Env} {E : Value → Shared → Prop}
theorem fieldAt {x : Str} {kd : Nat} {px pc ps : Pos} {j : Int} {a : Addr} {its : Array Value} {v : Value} {m : Str → Option Value} {Q : Value → Shared → Prop}
    (hk : env.scope.kind = .function) (hx : env.kindOf x = some .local) (hdx : (x == ("__debug__" : Str)) = false) (hn : s.heap.Ns env.locals m) (hm : m x = some (.ref a)) (hl : s.heap.IsList a its) (h0 : 0 ≤ j) (h1 : j < 2 ^ 63) (hv : its[j.toNat]? = some v)
    (hQ : Q v { s with toks := s.toks + 1 }) : wpAny (model prog w) A (eval (.Subscript (.Name x px) (.Constant (.int j) kd pc) ps) env) Q E s := by
  refine Subscript_Constant (wpAny_Name (wpAny_loadName_local hk hx hn hm ?_) hdx) (ht := fun _ _ => rfl)
  refine wpAny_Constant_int ?_
  exact ⟨"list", _, slot_list_getitem.lookup, (show Heap.IsList _ _ _ from hl).typeIs (s := { s with toks := s.toks + 1 }), wpAny_getItem_list hl h0 h1 hv hQ⟩

theorem testAt {x y : Str} {kd : Nat} {px pc ps py pq : Pos} {whole : Sem Value} {j : Int} {a c : Addr} {oc : Obj} {its : Array Value} {n q : Int} {t1 t2 : Tok} {m : Str → Option Value} {Q : Bool → Shared → Prop}
    (hk : env.scope.kind = .function) (hx : env.kindOf x = some .local) (hdx : (x == ("__debug__" : Str)) = false) (hn : s.heap.Ns env.locals m) (hm : m x = some (.ref a)) (hl : s.heap.IsList a its) (h0 : 0 ≤ j) (h1 : j < 2 ^ 63) (hv : its[j.toNat]? = some (.int n t1))
    (hy : env.kindOf y = some .cell) (hdy : (y == ("__debug__" : Str)) = false) (hc : env.cells.lookup y = some c) (ho : s.heap.get? c = some oc) (hoc : oc.data = .cell (some (.int q t2)))
    (hQ : Q (n == q) { s with toks := s.toks + 1 }) :
    wpAny (model prog w) A (isTrue (.Compare (.Subscript (.Name x px) (.Constant (.int j) kd pc) ps) [.Eq] [.Name y py] pq) env whole) Q E s := by
  refine wpAny_isTrue_Compare1 (fieldAt hk hx hdx hn hm hl h0 h1 hv ?_)
  refine wpAny_Name (wpAny_loadName_cell hk hy hc ⟨oc, ho, hoc⟩ ?_) hdy
  exact eq_int (wpAny_truthy_bool hQ)
end

section
variable {w : World} {A₀ A : Around} {s : Shared} {base h₀ : Heap} {outer : List Env} {L : Addr} {m mg mb : Str → Option Value} {env : Env} {loose : List Str} {mean : ExcName → Option Value} {p : Program}
  {ρ : List Row} {as : List Addr} {P cP f : Addr} {fo ocP : Obj} {E : Value → Shared → Prop} {Q : Value → Shared → Prop} {k : Int} {kt : Tok}
  {name qual : Str} {doc pm cdv ct : Value} {an : Option Addr}

theorem where_run (HP : PlainAt s.heap P as ρ) (B : Below A₀ base outer h₀) (F : Fr h₀ L s.heap m) (X₀ : (Mine.hd.heap_39 w.params).In h₀) (T : Top p loose mean mg mb h₀)
    (hA : A.frames = some (env :: outer)) (hf : env.frame = some L) (hke : env.scope.kind = .function) (hroom : A.depth < recursionLimit) (hh : A.handled = none)
    (ho : s.heap.get? f = some fo) (hd : fo.data = .func (fnX name qual (fnParams whereDef) (fnBody whereDef) (fnScope whereDef) [(Str.ofString "plain", cP)] .none .none doc pm an cdv ct)) (hcd : s.heap.CodeRec cdv qual)
    (NP : News h₀ L s.heap [(cP, ocP)]) (hcPd : ocP.data = .cell (some (.ref P))) (hsz : ρ.length ≤ 1000)
    (h : ∀ W h' tk ys, s.heap.get? W = none → h'.PlainList W ys → IntsAre ys.toList (((List.range ρ.length).filter fun i => decide ((ρ[i]?.map (·.1)) = some k)).map Int.ofNat) → Old s.heap h' → Q (.ref W) { s with heap := h', toks := tk }) :
    wpAny (model PySem.Challenge.rw_fh5009_01.row.prog w) A (call (.ref f) [.int k kt]) Q E s := by
  obtain ⟨bd, eb⟩ : ∃ b, b = fnBody whereDef := ⟨_, rfl⟩
  obtain ⟨pr, ep⟩ : ∃ b, b = fnParams whereDef := ⟨_, rfl⟩
  obtain ⟨sc, es⟩ : ∃ b, b = fnScope whereDef := ⟨_, rfl⟩
  rw [← eb, ← ep, ← es] at hd
  conv at eb => rhs; whnf
  conv at ep => rhs; whnf
  conv at es => rhs; whnf
  subst eb ep es
  revert X₀; k_fill; intro X₀
  refine wpAny_call ?_
  refine' callX_cell1 (news := [(cP, ocP)]) (x := Str.ofString "key") (v := .int k kt) B F NP T.nolimit hA hf hke ho hd hcd hroom ?kb ?kc ?kp ?kx ?_ ?k1 ?k2 ?k3
  case kb => exact BindsTo.of_eq (by kernel_rfl)
  case kc => intro n; kernel_rfl
  case kp => intro h; kernel_rfl
  case kx => kernel_rfl
  case k1 => rfl
  case k2 => rfl
  case k3 => rfl
  intro g L' h₁ oc FG F' N' ocd B' st O G' hL'
  have X' := X₀.keeps st
  have T' := T.keeps st
  dsimp only
  iterate 2 walk_at "MINE step"
  have HP₁ : PlainAt h₁ P as ρ := HP.old O
  have hsize : (as.map Value.ref).toArray.size = ρ.length := by simp [HP.len]
  refine' compEnum (fun i => decide ((ρ[i]?.map (·.1)) = some k)) (as.map Value.ref).toArray (cl := [(Str.ofString "key", L' + 1)]) hh ?kc ?kl ?kk ?kn ?kx ?ky ?kz ?kd ?ks ?ki ?kt ?kQ
  case kc => kernel_rfl
  case kl => decide
  case kk => rfl
  case kn => decide
  case kx => kernel_rfl
  case ky => kernel_rfl
  case kz => decide
  case kd => kernel_rfl
  case ks => rw [hsize, sizeLine_eq]; omega
  case kQ =>
    intro W h' tk ys hW hl hi old
    rw [hsize] at hi
    dsimp only
    refine h W h' tk ys ?_ hl hi (O.trans old)
    cases e : s.heap.get? W with
    | none => rfl
    | some o => rw [O _ _ e] at hW; cases hW
  case ki =>
    iterate 4 walk_at "MINE step"
    refine nameX_F N' (by kernel_rfl) (.tail _ (.head _)) hcPd ?_ rfl (by kernel_rfl) (by kernel_rfl) (by kernel_rfl)
    iterate 1 walk_at "MINE step"
    refine' call_enumerate_list (l := P) (items := (as.map Value.ref).toArray) ?hl ?hr
    case hl => exact HP₁.list.isList
    intro h₂ he hit hz old
    obtain ⟨_, hP, _⟩ := HP₁.list.isList
    have hlt := Heap.lt_size hP
    exact ⟨_, _, P, rfl, he, hit, HP₁.list.isList.at fun o e => old _ _ e, by simp, Nat.ne_of_lt (Nat.lt_succ_of_lt hlt), Nat.ne_of_lt hlt, ⟨_, _, rfl, old⟩, get_none_of_ge (Nat.le_succ _), get_none_of_ge (Nat.le_refl _)⟩
  case kt =>
    intro C i v t s₃ m₃ E' hv hn hmi hmv old hC
    have hk₃ := old _ _ (N' _ (.head _)).1
    have hi : i < as.length := by
      have := (Array.getElem?_eq_some_iff.mp hv).1
      simpa using this
    obtain ⟨a, ha⟩ : ∃ a, as[i]? = some a := ⟨_, List.getElem?_eq_getElem hi⟩
    obtain ⟨r, hr⟩ : ∃ r, ρ[i]? = some r := ⟨_, List.getElem?_eq_getElem (by rw [← HP.len]; exact hi)⟩
    have hva : v = .ref a := by simpa [ha] using hv.symm
    subst hva
    obtain ⟨t1, t2, t3, hrow⟩ := (HP₁.rows i a r ha hr).old old
    refine testAt (m := m₃) (its := #[.int r.1 t1, .int r.2.1 t2, .int r.2.2 t3]) (oc := oc) ?_ ?_ ?_ hn hmv hrow (by decide) (by decide) rfl ?_ ?_ ?_ hk₃ ocd ?_
    · rfl
    · kernel_rfl
    · kernel_rfl
    · kernel_rfl
    · kernel_rfl
    · kernel_rfl
    · refine ⟨?_, _, _, rfl, fun b o e => e⟩
      rw [hr]
      simp
      rfl
end
end Mine

-- FhFor
theorem Mine.anewFhFor : True := by (w_top off); exact trivial
namespace Mine
open PySem PySem.W PyProof.Rows PySem.Calls

section
variable {prog : Program} {w : World} {A : Around} {E : Value → Shared → Prop} {s : Shared} {env : Env}

/-- a walked loop, its invariant over the heap -/
def ForAt (prog : Program) (w : World) (A : Around) (env : Env) (x : Str) (body : List Stmt) (Q : Flow → Shared → Prop) (E : Value → Shared → Prop) (it : Value) (s₂ : Shared) : Prop :=
  ∃ (I : Addr) (fp wr : List Addr) (n : Nat) (P : Nat → Value → Prop) (St : Nat → Heap → Prop) (m : Str → Option Value) (J : Nat → (Str → Option Value) → Heap → Prop),
    it = .ref I ∧ Walks prog w A I fp wr n P St ∧ env.locals ∉ fp ∧ St 0 s₂.heap ∧ J 0 m s₂.heap ∧
    (∀ i m h h', J i m h → (∀ b o, b ∉ wr → h.get? b = some o → h'.get? b = some o) → J i m h') ∧ (∀ i m h, J i m h → h.Ns env.locals m) ∧
    (∀ i v m h₁ h₂ tk, i < n → P i v → J i m h₁ → h₂.Ns env.locals (fun y => if y = x then some v else m y) → Heap.SameBut env.locals h₁ h₂ → St (i + 1) h₂ →
      wpAny (model prog w) A (execs body env) (fun f s₃ => match f with
        | .next => ∃ h' tk' m', s₃ = { s₂ with heap := h', toks := tk' } ∧ J (i + 1) m' h' ∧ ∀ b ∈ fp, ∀ o, h₂.get? b = some o → h'.get? b = some o
        | .ret u => Q (.ret u) s₃
        | _ => False) E { s₂ with heap := h₂, toks := tk }) ∧
    (∀ m h' tk, J n m h' → Q .next { s₂ with heap := h', toks := tk })

theorem codeAny_forSem {R : Result → Shared → Prop} {x : Str} {px : Pos} {body : List Stmt} {I : Addr} {fp wr : List Addr} {n : Nat} {P : Nat → Value → Prop} {St : Nat → Heap → Prop} {m : Str → Option Value}
    (J : Nat → (Str → Option Value) → Heap → Prop) (W : Walks prog w A I fp wr n P St) (hx : env.kindOf x = some .local)
    (hp : (env.scope.kind == .class || (env.scope.kind == .module && env.locals != env.globals)) = false)
    (hLf : env.locals ∉ fp) (hst : St 0 s.heap) (h0 : J 0 m s.heap)
    (hJ : ∀ i m h h', J i m h → (∀ b o, b ∉ wr → h.get? b = some o → h'.get? b = some o) → J i m h') (hns : ∀ i m h, J i m h → h.Ns env.locals m)
    (step : ∀ i v m h₁ h₂ tk, i < n → P i v → J i m h₁ → h₂.Ns env.locals (fun y => if y = x then some v else m y) → Heap.SameBut env.locals h₁ h₂ → St (i + 1) h₂ →
      wpAny (model prog w) A (execs body env) (fun f s₃ => match f with
        | .next => ∃ h' tk' m', s₃ = { s with heap := h', toks := tk' } ∧ J (i + 1) m' h' ∧ ∀ b ∈ fp, ∀ o, h₂.get? b = some o → h'.get? b = some o
        | .ret u => R (.ok (.ret u)) s₃
        | _ => False) (notedBy (model prog w) A env fun e s' => R (.error e) s') { s with heap := h₂, toks := tk })
    (hR : ∀ m h' tk, J n m h' → R (.ok .next) { s with heap := h', toks := tk }) :
    codeAny (model prog w) A (.forLoop (.Name x px) (.ref I) body [] env) R s := by
  refine codeAny_forLoop
    (fun k s' => ∃ h' tk m' i, s' = { s with heap := h', toks := tk } ∧ St i h' ∧ J i m' h' ∧ i ≤ n ∧ k = n + 1 - i) ?_ (n + 1)
    ⟨s.heap, s.toks, m, 0, rfl, hst, h0, Nat.zero_le _, rfl⟩
  rintro k s' ⟨h', tk, m', i, rfl, hst', hj, hi, rfl⟩
  by_cases hlt : i < n
  · refine W.item i _ _ _ hlt hst' fun v h₁ tk₁ hP hst₁ hk₁ => ?_
    have hj₁ := hJ _ _ _ _ hj hk₁
    refine wpAny_assign_Name (wpAny_storeName_local hx (hns _ _ _ hj₁) (fun h₂ hn₂ hs₂ => ?_) hp)
    have hst₂ : St (i + 1) h₂ := W.frame _ _ _ hst₁ fun b hb o e => hs₂.extBut b o (fun q => hLf (q ▸ hb)) e
    refine wpAny_mono (step i v m' h₁ h₂ _ hlt hP hj₁ hn₂ hs₂ hst₂) (fun f s₃ h₃ => ?_) fun _ _ e => e
    cases f with
    | next =>
      obtain ⟨h₃', tk₃, m₃, rfl, hj₃, hk₃⟩ := h₃
      exact ⟨n + 1 - (i + 1), by omega, h₃', tk₃, m₃, i + 1, rfl, W.frame _ _ _ hst₂ hk₃, hj₃, hlt, rfl⟩
    | ret u => exact h₃
    | brk => exact h₃.elim
    | cont => exact h₃.elim
  · have hin : i = n := by omega
    subst hin
    refine W.done _ _ _ hst' fun h₁ tk₁ hk₁ => ?_
    exact wpAny_execs_nil (hR m' h₁ tk₁ (hJ _ _ _ _ hj hk₁))

theorem ForSem {Q : Flow → Shared → Prop} {x : Str} {px pos : Pos} {iter : PySem.Expr} {body : List Stmt} (hx : env.kindOf x = some .local)
    (hp : (env.scope.kind == .class || (env.scope.kind == .module && env.locals != env.globals)) = false)
    (h : wpAny (model prog w) A (eval iter env) (fun xv s₁ => wpAny (model prog w) A (pyIter xv) (fun it s₂ => ForAt prog w A env x body Q E it s₂) E s₁) E s)
    (hs : ∀ x, foldedSetIterable iter env x = pure x := by intro _; rfl)
    (hE : PassesOwn (model prog w) A env E := by passes_own) :
    wpAny (model prog w) A (exec (.For (.Name x px) iter body [] pos) env) Q E s := by
  refine wpAny_For (wpAny_mono h (fun xv s₁ h₁ => wpAny_mono h₁ (fun it s₂ h₂ => ?_) fun _ _ e => e) fun _ _ e => e) hs
  obtain ⟨I, fp, wr, n, P, St, m, J, rfl, W, hLf, hst, h0, hJ, hns, step, hQ⟩ := h₂
  exact codeAny_forSem (R := fun r s' => match r with | .ok f => Q f s' | .error e => cameBackBy (model prog w) A env E e s') J W hx hp hLf hst h0 hJ hns (by intros; exact wpAny_passesOwn hE (by apply step <;> assumption)) hQ
end
end Mine

-- FhComp
theorem Mine.anewFhComp : True := by (w_top off); exact trivial
namespace Mine
open PySem PySem.W PyProof.Rows PySem.Calls

section
variable {prog : Program} {w : World} {A : Around} {E : Value → Shared → Prop} {s : Shared} {env : Env}

def fldOf (as : List Addr) (ρ : List Row) (fld : Row → Int) (a : Addr) : Int := ((ρ[as.idxOf a]?).map fld).getD 0

theorem idxOf_nodupA {l : List Addr} (h : l.Nodup) {i : Nat} {k : Addr} (e : l[i]? = some k) : l.idxOf k = i := by
  obtain ⟨hi, rfl⟩ := List.getElem?_eq_some_iff.mp e
  exact h.idxOf_getElem i hi

theorem fldOf_at {as : List Addr} {ρ : List Row} {fld : Row → Int} (nd : as.Nodup) {i : Nat} {a : Addr} {r : Row} (ha : as[i]? = some a) (hr : ρ[i]? = some r) : fldOf as ρ fld a = fld r := by
  unfold fldOf; rw [idxOf_nodupA nd ha, hr]; rfl

theorem fldOf_map {as : List Addr} {ρ : List Row} {fld : Row → Int} (nd : as.Nodup) (hl : as.length = ρ.length) : as.map (fldOf as ρ fld) = ρ.map fld := by
  apply List.ext_getElem?
  intro i
  rw [List.getElem?_map, List.getElem?_map]
  by_cases hi : i < as.length
  · have hi' : i < ρ.length := by omega
    rw [List.getElem?_eq_getElem hi, List.getElem?_eq_getElem hi']
    simp only [Option.map_some, Option.some.injEq]
    exact fldOf_at nd (List.getElem?_eq_getElem hi) (List.getElem?_eq_getElem hi')
  · rw [List.getElem?_eq_none (by omega), List.getElem?_eq_none (by omega)]; rfl

theorem ints_of_paired {g : Addr → Int} : ∀ {vs ys : List Value} {as : List Addr}, Paired (fun v y => ∃ a t, v = Value.ref a ∧ y = Value.int (g a) t) vs ys → vs = as.map Value.ref → IntsAre ys (as.map g)
  | _, _, [], .nil, _ => .nil
  | _, _, a :: as, .nil, h => by cases h
  | _, _, [], .cons _ _, h => by cases h
  | _, _, a :: as, .cons hF hP, h => by
    obtain ⟨a', t, rfl, rfl⟩ := hF
    simp only [List.map_cons, List.cons.injEq, Value.ref.injEq] at h
    obtain ⟨rfl, h⟩ := h
    exact .cons _ _ (ints_of_paired hP h)

theorem compField {iter : PySem.Expr} {x : Str} {px px' pc ps pos : Pos} {kd : Nat} {j : Int} {scope : Scope} {cl : List (Str × Addr)} {Q : Value → Shared → Prop} {P : Addr} {as : List Addr} {ρ : List Row} (fld : Row → Int)
    (hh : A.handled = none) (HP : PlainAt s.heap P as ρ) (hsz : ρ.length ≤ 1000) (h0 : 0 ≤ j) (h1 : j < 2 ^ 63) (hf : ∀ (r : Row) t1 t2 t3, ∃ t, (#[Value.int r.1 t1, .int r.2.1 t2, .int r.2.2 t3] : Array Value)[j.toNat]? = some (.int (fld r) t))
    (hclos : closureFor scope env = pure cl) (hcell : ∀ y ∈ scope.names, y.2 ≠ .cell) (hkind : scope.kind = .function)
    (hnames : ∀ y ∈ scope.names, y.2 = .local → scope.names.lookup y.1 = some .local) (hx : scope.names.lookup x = some .local) (hdx : (x == ("__debug__" : Str)) = false)
    (hi : ∀ Q' : Value → Shared → Prop, Q' (.ref P) s → wpAny (model prog w) A (eval iter env) Q' E s)
    (hQ : ∀ D h' tk ys, s.heap.get? D = none → h'.PlainList D ys → IntsAre ys.toList (ρ.map fld) → Old s.heap h' → Q (.ref D) { s with heap := h', toks := tk })
    (hs : ∀ x, foldedSetIterable iter env x = pure x := by intro _; rfl) :
    wpAny (model prog w) A (eval (.ListComp (.Subscript (.Name x px) (.Constant (.int j) kd pc) ps) [⟨.Name x px', iter, [], 0⟩] scope pos) env) Q E s := by
  refine wpAny_ListComp_free (fun _ => true) (fun v y => ∃ a t, v = Value.ref a ∧ y = Value.int (fldOf as ρ fld a) t) hclos hcell hkind hnames hx (hi _ ?_) hs
  refine wpAny_pyIter_list HP.list.isList ?_
  have hPlt : P < s.heap.objs.size := by obtain ⟨_, e, _⟩ := HP.list.isList; exact Heap.lt_size e
  have hsize : (as.map Value.ref).toArray.size = ρ.length := by simp [HP.len]
  have old : Old s.heap (s.heap.push { cls := .type "list_iterator", data := .fields #[.ref P, .int 0 0] }) := Old.push _ _
  refine ⟨s.heap.objs.size, _, _, _, _, _, rfl, Walks.list hh s.heap.objs.size P (Nat.ne_of_lt hPlt) (as.map Value.ref).toArray, by rw [hsize, sizeLine_eq]; omega,
    ⟨⟨_, Heap.get?_push_size _ rfl, rfl, rfl⟩, HP.list.isList.push _⟩, fun b hb => ?_, ⟨?_, ?_⟩, ?_⟩
  · simp only [List.mem_cons, List.not_mem_nil, or_false] at hb
    show b < (s.heap.push _).objs.size
    rw [Heap.size_push]
    rcases hb with rfl | rfl
    · exact Nat.lt_succ_self _
    · exact Nat.lt_succ_of_lt hPlt
  · intro C i v s₃ m₃ E' _ _ _ _ _ _
    exact wpAny_pure ⟨rfl, _, _, rfl, fun b o e => e⟩
  · intro C i v s₃ m₃ E' hC hv _ hn hm hk htk
    have hlt : i < as.length := by
      have := (Array.getElem?_eq_some_iff.mp hv).1
      simpa using this
    obtain ⟨a, ha⟩ : ∃ a, as[i]? = some a := ⟨_, List.getElem?_eq_getElem hlt⟩
    obtain ⟨r, hr⟩ : ∃ r, ρ[i]? = some r := ⟨_, List.getElem?_eq_getElem (by rw [← HP.len]; exact hlt)⟩
    have hva : v = .ref a := by simpa [ha] using hv.symm
    subst hva
    obtain ⟨t1, t2, t3, hrow⟩ := (HP.rows i a r ha hr).old old
    obtain ⟨t, ht⟩ := hf r t1 t2 t3
    have halt : a ≠ s.heap.objs.size := by
      obtain ⟨_, _, _, _, e', _⟩ := HP.rows i a r ha hr
      exact Nat.ne_of_lt (Heap.lt_size e')
    have hrow₃ := hrow.at fun o e => hk a o (by simpa using halt) e
    refine fieldAt (m := m₃) (env := compEnvC scope cl C env) (by show (relabel scope env).kind = _; exact hkind) (lookup_relabel_local hx) hdx hn hm hrow₃ h0 h1 ht ?_
    exact ⟨⟨a, t, rfl, by rw [fldOf_at HP.nodup ha hr]⟩, _, _, rfl, fun b o e => e⟩
  · intro D h' tk ys vs hD hl hpl hlen hP hF hk
    have hvs : vs = as.map Value.ref := by
      apply List.ext_getElem?
      intro i
      cases e : vs[i]? with
      | none =>
        have : vs.length ≤ i := by simpa using e
        rw [List.getElem?_eq_none]
        rw [hlen] at this
        simpa using this
      | some v =>
        have := hP i v e
        simpa using this.symm
    have hD' : s.heap.get? D = none := by
      cases e : s.heap.get? D with
      | none => rfl
      | some o => rw [old _ _ e] at hD; cases hD
    refine hQ D h' tk ys hD' hpl ?_ fun b o e => hk b o (by simpa using Nat.ne_of_lt (Heap.lt_size e)) (old b o e)
    rw [← fldOf_map HP.nodup HP.len]
    refine ints_of_paired hF ?_
    simp [hvs]
end
end Mine

-- FhPop
theorem Mine.anewFhPop : True := by (w_top off); exact trivial
namespace Mine
open PySem PySem.W PyProof.Rows PySem.Calls
local macro_rules | `(tactic| walk_at "MINE step") => `(tactic| first | (k_unfold; (try dsimp only)) | (k_end; wrow_close) | walk1 | (dsimp only; walk1) | (leave1; walk_say "STEP leave1"; try dsimp only) | fail "no step")
local macro_rules | `(tactic| k_all) => `(tactic| assumption)

section
variable {prog : Program} {w : World} {A : Around} {E : Value → Shared → Prop} {s : Shared} {env : Env}
theorem pop_atI {P : Addr} {its : Array Value} {k : Nat} {i : Int} {u : Tok} {y : Value} {Q : Value → Shared → Prop} (hl : s.heap.PlainList P its) (hf : Builtin.List.listFitsIndex i = true) (hq : seqIndex? i its.size = some k) (hy : its[k]? = some y) (hz : its.size ≤ sizeLine)
    (h : ∀ h', h'.PlainList P (its.eraseIdxIfInBounds k) → Heap.SameBut P s.heap h' → Q y { s with heap := h' }) : wpAny (model prog w) A (call (.builtin "list.pop") [.ref P, .int i u]) Q E s := by
  obtain ⟨n, hn⟩ := hl
  refine call_meets PySem.F.slot_list_pop ⟨_, hn, rfl⟩ PySem.F.entry_list_pop (PySem.F.args_list_pop_2 _ _) (PySem.MeetsSeq.list_pop_at P _ n i u _ y hf hq hy hz) ⟨hn, h _ ⟨_, PySem.IsL.update hn (fun xs => xs.eraseIdxIfInBounds k)⟩ (Heap.SameBut.update ..)⟩

theorem pop_at {P : Addr} {its : Array Value} {k : Nat} {u : Tok} {y : Value} {Q : Value → Shared → Prop} (hl : s.heap.PlainList P its) (hy : its[k]? = some y) (hz : its.size ≤ 1000)
    (h : ∀ h', h'.PlainList P (its.eraseIdxIfInBounds k) → Heap.SameBut P s.heap h' → Q y { s with heap := h' }) : wpAny (model prog w) A (call (.builtin "list.pop") [.ref P, .int (k : Int) u]) Q E s := by
  have hk : k < its.size := (Array.getElem?_eq_some_iff.mp hy).1
  have hsize : its.size ≤ sizeLine := by rw [sizeLine_eq]; omega
  have hf : Builtin.List.listFitsIndex (k : Int) = true := by
    unfold Builtin.List.listFitsIndex
    rw [Bool.and_eq_true, decide_eq_true_eq, decide_eq_true_eq]
    omega
  have hq : seqIndex? (k : Int) its.size = some k := by
    unfold seqIndex?
    have h0 : ¬ ((k : Int) < 0) := by omega
    simp only [h0, if_false]
    rw [if_pos (by rw [Bool.and_eq_true, decide_eq_true_eq, decide_eq_true_eq]; omega)]
    rfl
  exact pop_atI hl hf hq hy hsize h

theorem iterRange {r : Addr} {n : Int} {t u v : Tok} {x : Str} {body : List Stmt} {Q : Flow → Shared → Prop} {m : Str → Option Value} (J : Nat → (Str → Option Value) → Heap → Prop) (hh : A.handled = none) (hR : IsRange s.heap r 0 n 1 t u v) (hn0 : 0 ≤ n) (hn1 : n < 2 ^ 62)
    (hL : env.locals < s.heap.objs.size)
    (h0 : ∀ h', Old s.heap h' → J 0 m h')
    (hJ : ∀ i m h h', J i m h → (∀ b o, b ≠ s.heap.objs.size → h.get? b = some o → h'.get? b = some o) → J i m h') (hns : ∀ i m h, J i m h → h.Ns env.locals m)
    (step : ∀ (i : Nat) t m h₁ h₂ tk oI, i < n.toNat → J i m h₁ → h₂.Ns env.locals (fun y => if y = x then some (.int (i : Int) t) else m y) → Heap.SameBut env.locals h₁ h₂ → h₂.get? s.heap.objs.size = some oI → oI.cls = .type "range_iterator" →
      wpAny (model prog w) A (execs body env) (fun f s₃ => match f with
        | .next => ∃ h' tk' m', s₃ = { s with heap := h', toks := tk' } ∧ J (i + 1) m' h' ∧ h'.get? s.heap.objs.size = some oI
        | .ret u => Q (.ret u) s₃
        | _ => False) E { s with heap := h₂, toks := tk })
    (hQ : ∀ m h' tk, J n.toNat m h' → Q .next { s with heap := h', toks := tk }) :
    wpAny (model prog w) A (pyIter (.ref r)) (fun it s₂ => ForAt prog w A env x body Q E it s₂) E s := by
  refine wpAny_pyIter_range hR (small_one (by decide) (by decide) (by omega) hn1) ?_
  have hs : Builtin.Range.rangeSize 0 n 1 = (n.toNat : Int) := by rw [rangeSize_nat]; simp
  rw [hs]
  refine ⟨s.heap.objs.size, _, _, n.toNat, _, _, m, J, rfl, PyProof.Rows.LCg.range_walks hh 0 n.toNat, by simpa using Nat.ne_of_lt hL, ?_, h0 _ (Old.push _ _), ?_, hns, ?_, fun m h' tk hj => hQ m h' tk hj⟩
  · show IsRangeIter _ _ _ _ _
    simpa using Heap.get?_push_size _ rfl
  · intro i m h h' hj hk
    exact hJ i m h h' hj fun b o hb e => hk b o (by simpa using hb) e
  · rintro i v m h₁ h₂ tk hi ⟨t, rfl⟩ hj hn hs hst
    rw [Int.zero_add] at hn
    refine wpAny_mono (step i t m h₁ h₂ tk _ hi hj hn hs hst rfl) (fun f s₃ h₃ => ?_) fun _ _ e => e
    cases f with
    | next =>
      obtain ⟨h', tk', m', e, hj', ho⟩ := h₃
      refine ⟨h', tk', m', e, hj', fun b hb o ho' => ?_⟩
      have hb' : b = s.heap.objs.size := by simpa using hb
      subst hb'
      rw [← ho']
      exact ho.trans hst.symm
    | ret u => exact h₃
    | brk => exact h₃
    | cont => exact h₃

theorem min_sem {l : Addr} {ys : Array Value} {ns : List Int} {Q : Value → Shared → Prop} (hh : A.handled = none) (hl : s.heap.IsList l ys) (hi : IntsAre ys.toList ns) (hne : 0 < ns.length)
    (h : ∀ M (t : Tok) h' tk, M ∈ ns → (∀ a, a ∈ ns → M ≤ a) → Old s.heap h' → Q (.int M t) { s with heap := h', toks := tk }) :
    wpAny (model prog w) A (call (.builtin "min") [.ref l]) Q E s := by
  have hall : AllInts ys := by have := hi.allInts; simpa using this
  obtain ⟨xs, rfl⟩ := hall.items
  have hns : ns = xs.toList.map (·.1) := by rw [← hi.numsOf, ← nums_intItems]
  have hsz : 0 < xs.size := by
    have h3 := hne; rw [hns, List.length_map, Array.length_toList] at h3; exact h3
  refine min_intList hh hl hsz fun v h' tk hv hk => ?_
  obtain ⟨t, rfl⟩ := intItems_at hv
  obtain ⟨h1, h2⟩ := argBest_lt (numAt xs) (xs.size - 1)
  refine h _ t h' tk ?_ (fun a ha => ?_) hk
  · rw [hns, numAt_eq]; exact getD_mem (by rw [List.length_map, Array.length_toList]; omega)
  · rw [hns] at ha
    obtain ⟨j, hj, rfl⟩ := mem_getD ha
    rw [List.length_map, Array.length_toList] at hj
    rw [← numAt_eq]; exact h2 j (by omega)

theorem getMethod_list {P : Addr} {its : Array Value} {name : Str} {id : String} {pl : Sem Bool} {Q : Value × List Value → Shared → Prop} (hl : s.heap.PlainList P its) (slot : Slot "list" name id) (hty : typeOf (.builtin id) = pure (.type "method_descriptor"))
    (h : Q (.builtin id, [.ref P]) s) : wpAny (model prog w) A (getMethod (.ref P) name pl) Q E s := by
  obtain ⟨n, e⟩ := hl
  exact getMethod_builtin ⟨_, e, rfl⟩ PySem.F.plainAttrs_list slot hty (fun a e' => by cases e'; exact ⟨_, e, rfl⟩) h
end
end Mine

-- FhPlain3
theorem Mine.anewFhPlain3 : True := by (w_top off); exact trivial
namespace Mine
open PySem PySem.W PyProof.Rows PySem.Calls

theorem evictN_succ : ∀ (i : Nat) (ρ : List Row), evictN (i + 1) ρ = evict1 (evictN i ρ)
  | 0, _ => rfl
  | i + 1, ρ => by show evictN (i + 1) (evict1 ρ) = evict1 (evictN i (evict1 ρ)); exact evictN_succ i (evict1 ρ)

theorem filter_head {p : Nat → Bool} : ∀ {n i : Nat}, i < n → p i = true → (∀ j, j < i → p j = false) → ∃ r, (List.range n).filter p = i :: r := by
  intro n
  induction n with
  | zero => intro i hi; omega
  | succ n ih =>
    intro i hi hp hb
    rw [List.range_succ, List.filter_append]
    by_cases hin : i = n
    · subst hin
      have : (List.range i).filter p = [] := by
        rw [List.filter_eq_nil_iff]
        intro j hj
        rw [hb j (List.mem_range.mp hj)]; simp
      rw [this]
      exact ⟨[], by simp [hp]⟩
    · obtain ⟨r, hr⟩ := ih (by omega) hp hb
      rw [hr]
      exact ⟨_, rfl⟩

/-- the places where the field is m -/
def places (fld : Row → Int) (m : Int) (ρ : List Row) : List Nat := (List.range ρ.length).filter fun i => decide ((ρ[i]?.map fld) = some m)

theorem places_first {fld : Row → Int} {m : Int} {ρ : List Row} (h : ∃ r ∈ ρ, fld r = m) : ∃ rest, places fld m ρ = (ρ.findIdx fun r => decide (fld r = m)) :: rest := by
  obtain ⟨r, hr, e⟩ := h
  have hlt : (ρ.findIdx fun r => decide (fld r = m)) < ρ.length := List.findIdx_lt_length_of_exists ⟨r, hr, by simpa using e⟩
  refine filter_head hlt ?_ ?_
  · rw [List.getElem?_eq_getElem hlt]
    have := List.findIdx_getElem (w := hlt)
    simpa using this
  · intro j hj
    rw [List.getElem?_eq_getElem (by omega)]
    have := List.not_of_lt_findIdx hj
    simpa using this

theorem places_none {fld : Row → Int} {m : Int} {ρ : List Row} (h : ¬ ∃ r ∈ ρ, fld r = m) : places fld m ρ = [] := by
  unfold places
  rw [List.filter_eq_nil_iff]
  intro i hi
  rw [List.mem_range] at hi
  rw [List.getElem?_eq_getElem hi]
  simp
  intro e
  exact h ⟨_, List.getElem_mem hi, e⟩

theorem map_eraseIdx' {α β : Type} (f : α → β) : ∀ (l : List α) (i : Nat), (l.map f).eraseIdx i = (l.eraseIdx i).map f
  | [], _ => rfl
  | _ :: _, 0 => rfl
  | x :: l, i + 1 => by show f x :: (l.map f).eraseIdx i = f x :: (l.eraseIdx i).map f; rw [map_eraseIdx' f l i]

theorem PlainAt.erase {h h' : Heap} {P : Addr} {as : List Addr} {ρ : List Row} (HP : PlainAt h P as ρ) {i : Nat} (hl : h'.PlainList P ((as.map Value.ref).toArray.eraseIdxIfInBounds i)) (hs : Heap.SameBut P h h') (hi : i < ρ.length) :
    PlainAt h' P (as.eraseIdx i) (ρ.eraseIdx i) := by
  have hia : i < as.length := by rw [HP.len]; exact hi
  refine ⟨?_, ?_, ?_, HP.nodup.sublist (List.eraseIdx_sublist _ _), fun q => HP.off ((List.eraseIdx_sublist _ _).subset q)⟩
  · have e : (as.map Value.ref).toArray.eraseIdxIfInBounds i = ((as.eraseIdx i).map Value.ref).toArray := by
      unfold Array.eraseIdxIfInBounds
      rw [dif_pos (by simpa using hia)]
      apply Array.toList_inj.mp
      rw [Array.toList_eraseIdx]
      show (as.map Value.ref).eraseIdx i = (as.eraseIdx i).map Value.ref
      rw [map_eraseIdx']
    rw [← e]; exact hl
  · rw [List.length_eraseIdx_of_lt hia, List.length_eraseIdx_of_lt hi, HP.len]
  · intro j a r ha hr
    have key : ∃ j' : Nat, as[j']? = some a ∧ ρ[j']? = some r := by
      rw [List.getElem?_eraseIdx] at ha hr
      by_cases hj : j < i
      · rw [if_pos hj] at ha hr; exact ⟨j, ha, hr⟩
      · rw [if_neg hj] at ha hr; exact ⟨j + 1, ha, hr⟩
    obtain ⟨j', ha', hr'⟩ := key
    obtain ⟨t1, t2, t3, e⟩ := HP.rows j' a r ha' hr'
    refine ⟨t1, t2, t3, e.extBut hs.extBut fun q => HP.off ?_⟩
    rw [← q]; exact List.mem_of_getElem? ha'
end Mine

-- FhEvict
theorem Mine.anewFhEvict : True := by (w_top off); exact trivial
namespace Mine
open PySem PySem.W PyProof.Rows PySem.Calls
local macro_rules | `(tactic| walk_at "MINE step") => `(tactic| first | (k_unfold; (try dsimp only)) | (k_end; wrow_close) | walk1 | (dsimp only; walk1) | (leave1; walk_say "STEP leave1"; try dsimp only) | fail "no step")
local macro_rules | `(tactic| k_all) => `(tactic| assumption)

theorem ints_head {ys : Array Value} {i : Nat} {rest : List Nat} (h : IntsAre ys.toList ((i :: rest).map Int.ofNat)) : ∃ t, ys[(0 : Int).toNat]? = some (.int (i : Int) t) := by
  obtain ⟨l⟩ := ys
  cases h with
  | cons n t _ => exact ⟨t, rfl⟩

section
variable {w : World} {A₀ A : Around} {s : Shared} {base h₀ : Heap} {outer : List Env} {L : Addr} {m mg mb : Str → Option Value} {env : Env} {loose : List Str} {mean : ExcName → Option Value} {p : Program}
  {ρ : List Row} {as : List Addr} {P cP cC f : Addr} {fo ocP ocC : Obj} {E : Value → Shared → Prop} {Q : Value → Shared → Prop} {n : Int} {tn : Tok}
  {name qual : Str} {doc pm cdv ct : Value} {an : Option Addr}

theorem evict_run (HP : PlainAt s.heap P as ρ) (B : Below A₀ base outer h₀) (F : Fr h₀ L s.heap m) (X₀ : (Mine.hd.heap_39 w.params).In h₀) (T : Top p loose mean mg mb h₀)
    (hA : A.frames = some (env :: outer)) (hf : env.frame = some L) (hke : env.scope.kind = .function) (hroom : A.depth < recursionLimit) (hh : A.handled = none)
    (ho : s.heap.get? f = some fo) (hd : fo.data = .func (fnX name qual (fnParams evictDef) (fnBody evictDef) (fnScope evictDef) [(Str.ofString "plain", cP), (Str.ofString "chop", cC)] .none .none doc pm an cdv ct)) (hcd : s.heap.CodeRec cdv qual)
    (NP : News h₀ L s.heap [(cP, ocP), (cC, ocC)]) (hcPd : ocP.data = .cell (some (.ref P))) (hcCd : ocC.data = .cell (some (.int n tn))) (hPo : P ≠ L ∧ h₀.get? P = none) (hn0 : 0 ≤ n) (hnl : n.toNat ≤ ρ.length) (hsz : ρ.length ≤ 1000) (hnd : (keysOf ρ).Nodup)
    (h : ∀ h' tk as', PlainAt h' P as' (evictN n.toNat ρ) → (∀ a ∈ as', a ∈ as) → ButA [P] s.heap h' → Q .none { s with heap := h', toks := tk }) :
    wpAny (model PySem.Challenge.rw_fh5009_01.row.prog w) A (call (.ref f) []) Q E s := by
  obtain ⟨bd, eb⟩ : ∃ b, b = fnBody evictDef := ⟨_, rfl⟩
  obtain ⟨pr, ep⟩ : ∃ b, b = fnParams evictDef := ⟨_, rfl⟩
  obtain ⟨sc, es⟩ : ∃ b, b = fnScope evictDef := ⟨_, rfl⟩
  rw [← eb, ← ep, ← es] at hd
  conv at eb => rhs; whnf
  conv at ep => rhs; whnf
  conv at es => rhs; whnf
  subst eb ep es
  revert X₀; k_fill; intro X₀
  obtain ⟨nP, eP⟩ := id HP.list
  have NP' : News h₀ L s.heap [(cP, ocP), (cC, ocC), (P, { cls := .type "list", data := .seq (as.map Value.ref).toArray nP })] := fun q hq => by
    simp only [List.mem_cons, List.not_mem_nil, or_false] at hq
    rcases hq with rfl | rfl | rfl
    · exact NP _ (.head _)
    · exact NP _ (.tail _ (.head _))
    · exact ⟨eP, hPo⟩
  refine wpAny_call ?_
  refine' callX_cell0 (x := Str.ofString "least") B F NP' T.nolimit hA hf hke ho hd hcd hroom ?kb ?kc ?kp ?_ ?k1 ?k2 ?k3
  case kb => exact BindsTo.of_eq (by kernel_rfl)
  case kc => intro n; kernel_rfl
  case kp => intro h; kernel_rfl
  case k1 => rfl
  case k2 => rfl
  case k3 => rfl
  intro g L' h₁ FG F' N' B' st O G' hL'
  have X' := X₀.keeps st
  have T' := T.keeps st
  have hgP : g.get? P = none := (N' _ (.tail _ (.tail _ (.tail _ (.head _))))).2.2
  dsimp only
  iterate 1 walk_at "MINE step"
  refine ForSem (by kernel_rfl) (by kernel_rfl) ?_
  iterate 4 walk_at "MINE step"
  refine nameX_F N' (by kernel_rfl) (.tail _ (.tail _ (.head _))) hcCd ?_ rfl (by kernel_rfl) (by kernel_rfl) (by kernel_rfl)
  iterate 2 walk_at "MINE step"
  rename_i h₂ tk₂ t₁ u₁ v₁ hR F₂ N₂ old₂
  have hPlt : P < s.heap.objs.size := Heap.lt_size eP
  have halt : ∀ a ∈ as, a < s.heap.objs.size := fun a ha => by
    obtain ⟨j, hj⟩ := List.getElem?_of_mem ha
    obtain ⟨hj', _⟩ := List.getElem?_eq_some_iff.mp hj
    obtain ⟨_, _, _, _, e, _⟩ := HP.rows j a (ρ[j]'(by rw [← HP.len]; exact hj')) hj (List.getElem?_eq_getElem _)
    exact Heap.lt_size e
  have hcPlt : cP < s.heap.objs.size := Heap.lt_size (NP _ (.head _)).1
  have hcClt : cC < s.heap.objs.size := Heap.lt_size (NP _ (.tail _ (.head _))).1
  have hcPP : cP ≠ P := fun q => by
    have := (NP _ (.head _)).1
    rw [q, eP] at this
    have e' := Option.some.inj this
    dsimp only at e'
    rw [← e'] at hcPd; cases hcPd
  have hcCP : cC ≠ P := fun q => by
    have := (NP _ (.tail _ (.head _))).1
    rw [q, eP] at this
    have e' := Option.some.inj this
    dsimp only at e'
    rw [← e'] at hcCd; cases hcCd
  have old₂' : Old h₁ h₂ := old₂
  have hL'2 : L' < h₂.objs.size := F₂.ns.lt
  have hL'3 : L' + 1 < h₂.objs.size := Heap.lt_size (N₂ _ (.head _)).1
  have hs2 : s.heap.objs.size ≤ h₂.objs.size := by rw [← hL']; exact Nat.le_of_lt hL'2
  have hgI : g.get? h₂.objs.size = none := by
    cases e : g.get? h₂.objs.size with
    | none => rfl
    | some o => exact absurd (Heap.lt_size (F₂.keep _ _ e)) (Nat.lt_irrefl _)
  refine iterRange (m := fun _ => none) (fun i m h => Fr g L' h m ∧ (∃ oc vo, oc.data = .cell vo ∧ News g L' h [(L' + 1, oc), (cP, ocP), (cC, ocC)]) ∧ ∃ as', PlainAt h P as' (evictN i ρ) ∧ ∀ a ∈ as', a ∈ as) hh hR hn0 (by omega) hL'2 ?_ ?_ ?_ ?_ ?_
  · intro h' old'
    refine ⟨F₂.keeps old', ⟨cellObj none, none, rfl, fun q hq => ?_⟩, as, HP.old (O.trans (old₂'.trans old')), fun a ha => ha⟩
    have hq' := N₂ q (by
      simp only [List.mem_cons, List.not_mem_nil, or_false] at hq ⊢
      rcases hq with h | h | h <;> simp [h])
    exact ⟨old' _ _ hq'.1, hq'.2⟩
  · rintro i m h h' ⟨Fh, ⟨oc, vo, hoc, Nh⟩, as', HP', hsub⟩ hk
    have ne : ∀ b, b < h₂.objs.size → b ≠ h₂.objs.size := fun b hb => Nat.ne_of_lt hb
    refine ⟨⟨Fh.ns.at' fun o e => hk _ o (ne _ hL'2) e, fun b o e => hk b o (fun q => by rw [q, hgI] at e; cases e) (Fh.keep b o e), Fh.above⟩, ⟨oc, vo, hoc, fun q hq => ⟨hk _ _ (ne _ ?_) (Nh q hq).1, (Nh q hq).2⟩⟩, as', ?_, hsub⟩
    · simp only [List.mem_cons, List.not_mem_nil, or_false] at hq
      rcases hq with rfl | rfl | rfl
      · exact hL'3
      · exact Nat.lt_of_lt_of_le hcPlt hs2
      · exact Nat.lt_of_lt_of_le hcClt hs2
    · refine ⟨HP'.list.at fun o e => hk _ o (ne _ (Nat.lt_of_lt_of_le hPlt hs2)) e, HP'.len, fun j a r ha hr => ?_, HP'.nodup, HP'.off⟩
      obtain ⟨t1, t2, t3, e⟩ := HP'.rows j a r ha hr
      exact ⟨t1, t2, t3, e.at fun o e => hk _ o (ne _ (Nat.lt_of_lt_of_le (halt a (hsub a (List.mem_of_getElem? ha))) hs2)) e⟩
  · rintro i m h ⟨Fh, _⟩; exact Fh.ns
  · rintro i t m h₃ h₄ tk oI hi ⟨Fh, ⟨oc, vo, hoc, Nh⟩, as', HP', hsub⟩ hn₄ hs₄ hIo hIc
    have F₄ := Fh.set hn₄ hs₄
    have N₄ := Nh.set hs₄
    have neL : ∀ b, b < s.heap.objs.size → b ≠ L' := fun b hb => by rw [hL']; exact Nat.ne_of_lt hb
    have HP₄ : PlainAt h₄ P as' (evictN i ρ) := ⟨HP'.list.extBut hs₄.extBut (neL _ hPlt), HP'.len, fun j a r ha hr => by
      obtain ⟨t1, t2, t3, e⟩ := HP'.rows j a r ha hr
      exact ⟨t1, t2, t3, e.extBut hs₄.extBut (neL _ (halt a (hsub a (List.mem_of_getElem? ha))))⟩, HP'.nodup, HP'.off⟩
    iterate 6 walk_at "MINE step"
    obtain ⟨ndi, leni, _⟩ := evictN_props i hnd (by omega)
    have hne : evictN i ρ ≠ [] := fun q => by rw [q] at leni; simp at leni; omega
    refine' compField (cl := []) (fun r => r.2.2) hh HP₄ ?q1 (by decide) (by decide) ?q2 ?q3 ?q4 ?q5 ?q6 ?q7 ?q8 ?q9 ?q10
    case q1 => omega
    case q2 => exact fun r t1 t2 t3 => ⟨t3, rfl⟩
    case q3 => kernel_rfl
    case q4 => decide
    case q5 => rfl
    case q6 => decide
    case q7 => kernel_rfl
    case q8 => kernel_rfl
    case q9 =>
      intro Q' hQ'
      exact nameX_F N₄ (by kernel_rfl) (.tail _ (.head _)) hcPd hQ' rfl (by kernel_rfl) (by kernel_rfl) (by kernel_rfl)
    case q10 =>
      intro D₅ h₅ tk₅ ys₅ hD₅ hl₅ hi₅ old₅
      have F₅ := F₄.keeps old₅
      have N₅ : News g L' h₅ [(L' + 1, oc), (cP, ocP), (cC, ocC)] := fun q hq => ⟨old₅ _ _ (N₄ q hq).1, (N₄ q hq).2⟩
      iterate 1 walk_at "MINE step"
      refine min_sem hh hl₅.isList hi₅ (by rw [List.length_map]; exact List.length_pos_iff.mpr hne) ?_
      intro M tM h₆ tk₆ hM1 hM2 old₆
      have hmin : minc (evictN i ρ) = M := IsMin.eq ⟨by obtain ⟨r, hr, e⟩ := List.mem_map.mp hM1; exact ⟨r, hr, e⟩, fun r hr => hM2 _ (List.mem_map_of_mem hr)⟩
      have old₄₆ : Old h₄ h₆ := Old.trans old₅ old₆
      refine wpAny_storeName_cell (c := L' + 1) (v₀ := vo) rfl (by kernel_rfl) (by kernel_rfl) ⟨oc, old₄₆ _ _ (N₄ _ (.head _)).1, hoc⟩ ?_
      rintro h₇ ⟨oc₇, hoc₇, hoc₇d⟩ hs₇
      have ne7 : ∀ b, b < s.heap.objs.size → b ≠ L' + 1 := fun b hb => by rw [hL']; exact Nat.ne_of_lt (Nat.lt_succ_of_lt hb)
      have keep₇ : ∀ b o, b ≠ L' + 1 → h₄.get? b = some o → h₇.get? b = some o := fun b o hb e => hs₇.extBut b o hb (old₄₆ b o e)
      have F₇ : Fr g L' h₇ _ := ⟨F₄.ns.at' fun o e => keep₇ _ o (Nat.ne_of_lt (Nat.lt_succ_self _)) e, fun b o e => keep₇ b o (fun q => by have := (N₄ _ (.head _)).2.2; rw [← q, e] at this; cases this) (F₄.keep b o e), F₄.above⟩
      have N₇ : News g L' h₇ [(L' + 1, oc₇), (cP, ocP), (cC, ocC)] := fun q hq => by
        simp only [List.mem_cons, List.not_mem_nil, or_false] at hq
        rcases hq with rfl | rfl | rfl
        · exact ⟨hoc₇, (N₄ _ (.head _)).2⟩
        · exact ⟨keep₇ _ _ (ne7 _ hcPlt) (N₄ _ (.tail _ (.head _))).1, (N₄ _ (.tail _ (.head _))).2⟩
        · exact ⟨keep₇ _ _ (ne7 _ hcClt) (N₄ _ (.tail _ (.tail _ (.head _)))).1, (N₄ _ (.tail _ (.tail _ (.head _)))).2⟩
      have HP₇ : PlainAt h₇ P as' (evictN i ρ) := ⟨HP₄.list.at fun o e => keep₇ _ o (ne7 _ hPlt) e, HP₄.len, fun j a r ha hr => by
        obtain ⟨t1, t2, t3, e⟩ := HP₄.rows j a r ha hr
        exact ⟨t1, t2, t3, e.at fun o e => keep₇ _ o (ne7 _ (halt a (hsub a (List.mem_of_getElem? ha)))) e⟩, HP₄.nodup, HP₄.off⟩
      have hI₇ : h₇.get? h₂.objs.size = some oI := keep₇ _ _ (Nat.ne_of_gt hL'3) hIo
      dsimp only
      clear hl₅ hi₅ hD₅ F₅ N₅
      iterate 3 walk_at "MINE step"
      refine nameX_F N₇ (by kernel_rfl) (.tail _ (.head _)) hcPd ?_ rfl (by kernel_rfl) (by kernel_rfl) (by kernel_rfl)
      refine getMethod_list HP₇.list PySem.F.slot_list_pop PySem.F.type_list_pop ?_
      dsimp only
      iterate 3 walk_at "MINE step"
      have hsize : (as'.map Value.ref).toArray.size = (evictN i ρ).length := by simp [HP₇.len]
      refine' compEnum (fun j => decide (((evictN i ρ)[j]?.map (·.2.2)) = some M)) (as'.map Value.ref).toArray (cl := [(Str.ofString "least", L' + 1)]) hh ?kc ?kl ?kk ?kn ?kx ?ky ?kz ?kd ?ks ?ki ?kt ?kQ
      case kc => kernel_rfl
      case kl => decide
      case kk => rfl
      case kn => decide
      case kx => kernel_rfl
      case ky => kernel_rfl
      case kz => decide
      case kd => kernel_rfl
      case ks => rw [hsize, sizeLine_eq]; omega
      case ki =>
        iterate 4 walk_at "MINE step"
        refine nameX_F N₇ (by kernel_rfl) (.tail _ (.head _)) hcPd ?_ rfl (by kernel_rfl) (by kernel_rfl) (by kernel_rfl)
        iterate 1 walk_at "MINE step"
        refine' call_enumerate_list (l := P) (items := (as'.map Value.ref).toArray) ?hl ?hr
        case hl => exact HP₇.list.isList
        intro h₈ he hit hz old
        obtain ⟨_, hP, _⟩ := HP₇.list.isList
        have hlt := Heap.lt_size hP
        exact ⟨_, _, P, rfl, he, hit, HP₇.list.isList.at fun o e => old _ _ e, by simp, Nat.ne_of_lt (Nat.lt_succ_of_lt hlt), Nat.ne_of_lt hlt, ⟨_, _, rfl, old⟩, get_none_of_ge (Nat.le_succ _), get_none_of_ge (Nat.le_refl _)⟩
      case kt =>
        intro C j v t s₃ m₃ E' hv hn hmi hmv old hC
        have hk₃ := old _ _ (N₇ _ (.head _)).1
        have hj : j < as'.length := by
          have := (Array.getElem?_eq_some_iff.mp hv).1
          simpa using this
        obtain ⟨a, ha⟩ : ∃ a, as'[j]? = some a := ⟨_, List.getElem?_eq_getElem hj⟩
        obtain ⟨r, hr⟩ : ∃ r, (evictN i ρ)[j]? = some r := ⟨_, List.getElem?_eq_getElem (by rw [← HP₇.len]; exact hj)⟩
        have hva : v = .ref a := by simpa [ha] using hv.symm
        subst hva
        obtain ⟨t1, t2, t3, hrow⟩ := (HP₇.rows j a r ha hr).old old
        refine testAt (m := m₃) (its := #[.int r.1 t1, .int r.2.1 t2, .int r.2.2 t3]) (oc := oc₇) ?_ ?_ ?_ hn hmv hrow (by decide) (by decide) rfl ?_ ?_ ?_ hk₃ hoc₇d ?_
        · rfl
        · kernel_rfl
        · kernel_rfl
        · kernel_rfl
        · kernel_rfl
        · kernel_rfl
        · refine ⟨?_, _, _, rfl, fun b o e => e⟩
          rw [hr]
          simp
          rfl
      case kQ =>
        intro W₈ h₈ tk₈ ys₈ hW₈ hl₈ hi₈ old₈
        rw [hsize] at hi₈
        dsimp only
        iterate 1 walk_at "MINE step"
        obtain ⟨r₀, hr₀, er₀⟩ := List.mem_map.mp hM1
        obtain ⟨rest, hpl⟩ := places_first (fld := fun r : Row => r.2.2) (m := M) (ρ := evictN i ρ) ⟨r₀, hr₀, er₀⟩
        have hi₈' : IntsAre ys₈.toList ((places (fun r : Row => r.2.2) M (evictN i ρ)).map Int.ofNat) := hi₈
        rw [hpl] at hi₈'
        obtain ⟨t₈, ht₈⟩ := ints_head hi₈'
        have hlt₈ : (evictN i ρ).findIdx (fun r => decide (r.2.2 = M)) < (evictN i ρ).length := List.findIdx_lt_length_of_exists ⟨r₀, hr₀, by simpa using er₀⟩
        refine tail_any hl₈.isList.typeIs slot_list_getitem.lookup (wpAny_getItem_list hl₈.isList (by decide) (by decide) ht₈ ?_) (by with_unfolding_all rfl)
        have old₇₈ : Old h₇ h₈ := old₈
        have HP₈ : PlainAt h₈ P as' (evictN i ρ) := HP₇.old old₇₈
        obtain ⟨a₈, ha₈⟩ : ∃ a, as'[(evictN i ρ).findIdx (fun r => decide (r.2.2 = M))]? = some a := ⟨_, List.getElem?_eq_getElem (by rw [HP₈.len]; exact hlt₈)⟩
        iterate 1 walk_at "MINE step"
        refine' pop_at (its := (as'.map Value.ref).toArray) (k := (evictN i ρ).findIdx (fun r => decide (r.2.2 = M))) (y := .ref a₈) ?p1 ?p2 ?p3 ?p4
        case p1 => exact HP₈.list
        case p2 => simp [ha₈]
        case p3 => rw [hsize]; omega
        intro h₉ hl₉ hs₉
        have HP₉ := HP₈.erase hl₉ hs₉ hlt₈
        have eev : (evictN i ρ).eraseIdx ((evictN i ρ).findIdx (fun r => decide (r.2.2 = M))) = evictN (i + 1) ρ := by
          rw [evictN_succ]; unfold evict1 firstAt; rw [hmin]
        rw [eev] at HP₉
        iterate 1 walk_at "MINE step"
        dsimp only
        have keep₉ : ∀ b o, b ≠ P → h₇.get? b = some o → h₉.get? b = some o := fun b o hb e => hs₉.extBut b o hb (old₇₈ b o e)
        have hL'P : L' ≠ P := Ne.symm (neL _ hPlt)
        refine ⟨h₉, _, _, rfl, ⟨⟨F₇.ns.at' fun o e => keep₉ _ o hL'P e, fun b o e => keep₉ b o (fun q => by rw [q, hgP] at e; cases e) (F₇.keep b o e), F₇.above⟩, ⟨oc₇, _, hoc₇d, fun q hq => ⟨keep₉ _ _ ?_ (N₇ q hq).1, (N₇ q hq).2⟩⟩, _, HP₉, fun a ha => hsub a ((List.eraseIdx_sublist _ _).subset ha)⟩, keep₉ _ _ (Nat.ne_of_gt (Nat.lt_of_lt_of_le hPlt hs2)) hI₇⟩
        simp only [List.mem_cons, List.not_mem_nil, or_false] at hq
        rcases hq with rfl | rfl | rfl
        · exact Ne.symm (ne7 _ hPlt)
        · exact hcPP
        · exact hcCP
  · rintro m h' tk ⟨Fh, ⟨oc, vo, hoc, Nh⟩, as', HP', hsub⟩
    dsimp only
    iterate 1 walk_at "MINE step"
    dsimp only
    refine h h' tk as' HP' hsub fun b o hb e => ?_
    have hbP : b ≠ P := fun q => hb (by simp [q])
    by_cases h1 : b = cP
    · subst h1
      have := (Nh _ (.tail _ (.head _))).1
      rw [show o = ocP from Option.some.inj (e.symm.trans (NP _ (.head _)).1)]; exact this
    · by_cases h2 : b = cC
      · subst h2
        have := (Nh _ (.tail _ (.tail _ (.head _)))).1
        rw [show o = ocC from Option.some.inj (e.symm.trans (NP _ (.tail _ (.head _))).1)]; exact this
      · refine Fh.keep b o (G' b o (fun q hq => ?_) e)
        simp only [List.mem_cons, List.not_mem_nil, or_false] at hq
        rcases hq with rfl | rfl | rfl
        · exact Ne.symm h1
        · exact Ne.symm h2
        · exact Ne.symm hbP
end
end Mine

-- FhDraw
theorem Mine.anewFhDraw : True := by (w_top off); exact trivial
namespace Mine
open PySem PySem.W PyProof.Rows PySem.Calls
local macro_rules | `(tactic| walk_at "MINE enter") => `(tactic| (
  (case kK => assumption)
  (case kA => assumption)
  (case kF => assumption)
  (case k1 => k_asm)
  (case k2 => k_asm)
  (case k3 => k_asm)
  (case k4 => k_asm)
  (case k5 => k_asm)
  (case k6 => k_is)
  (case k7 => k_is)
  (case k8 => assumption)
  (case k9 => exact BindsTo.of_eq rfl)
  (case c5 => decide)
  (case kB => exact locs rfl)
  (case c2 => exact rfl)
  (case c3 => exact rfl)
  (case c4 => exact rfl)))
local macro_rules | `(tactic| walk_at "MINE step") => `(tactic| first | (k_unfold; (try dsimp only)) | (k_end; wrow_close) | walk1 | (dsimp only; walk1) | (leave1; walk_say "STEP leave1"; try dsimp only) | fail "no step")
local macro_rules | `(tactic| k_all) => `(tactic| assumption)

theorem ints_at {vs : List Value} {ns : List Int} (h : IntsAre vs ns) : ∀ {i : Nat} {v : Value}, vs[i]? = some v → ∃ k t, v = .int k t := by
  induction h with
  | nil => intro i v e; cases e
  | cons n t _ ih =>
    intro i v e
    cases i with
    | zero => cases e; exact ⟨n, t, rfl⟩
    | succ i => exact ih e

section
variable {w : World} {A₀ A : Around} {s : Shared} {base h₀ : Heap} {outer : List Env} {L : Addr} {m mg mb : Str → Option Value} {env : Env} {loose : List Str} {mean : ExcName → Option Value} {p : Program}
  {cS l f : Addr} {fo ocS : Obj} {E : Value → Shared → Prop} {Q : Value → Shared → Prop} {n : Int} {tn : Tok} {vs : List Value} {ns : List Int}
  {name qual : Str} {doc pm cdv ct : Value} {an : Option Addr}

/-- the row's number: any int at all -/
theorem law_number (hl : h₀.IsList l vs.toArray) (hi : IntsAre vs ns) (hlen : ns.length ≤ 1000) (B : Below A₀ base outer h₀) (F : Fr h₀ L s.heap m) (X₀ : (Mine.hd.heap_39 w.params).In h₀) (T : Top p loose mean mg mb h₀)
    (hA : A.frames = some (env :: outer)) (hf : env.frame = some L) (hke : env.scope.kind = .function) (hroom : A.depth < recursionLimit) (hh : A.handled = none)
    (h : ∀ h' tk v t, Old s.heap h' → Q (.int v t) { s with heap := h', toks := tk }) :
    wpAny (model PySem.Challenge.rw_fh5009_01.row.prog w) A (call (.ref 78) [.ref l, .int n tn]) Q E s := by
  have N : News h₀ L s.heap [] := fun _ hq => nomatch hq
  revert X₀; k_fill; intro X₀
  refine wpAny_call ?_
  refine' def_S (binds := [(Str.ofString "script", .ref l), (Str.ofString "place", .int n tn)]) ?k1 ?k2 ?k3 ?k4 ?k5 ?kA ?kF ?kK ?k6 ?k7 ?k8 ?k9 ?kB ?_ ?c5 ?c2 ?c3 ?c4
  walk_at "MINE enter"
  intro g' L' h' FG' F' N' B' X' T' O' G'
  have hl' : g'.IsList l vs.toArray := hl.at fun o e => FG'.keep _ _ e
  have hl'' : h'.IsList l vs.toArray := hl'.at fun o e => F'.keep _ _ e
  try dsimp only
  iterate 6 walk_at "MINE step"
  have hvl : vs.length = ns.length := hi.length
  refine wpAny_truthy_list (items := vs.toArray) ?_ ?_ ?_
  · exact hl''
  · simp; omega
  by_cases hemp : vs.toArray.isEmpty = true
  · rw [hemp]
    dsimp only
    iterate 2 walk_at "MINE step"
    iterate 5 walk_at "MINE step"
    exact h h' _ _ _ O'
  · rw [Bool.not_eq_true] at hemp
    rw [hemp]
    dsimp only
    iterate 2 walk_at "MINE step"
    iterate 9 walk_at "MINE step"
    have hpos : 0 < vs.length := by
      rcases Nat.eq_zero_or_pos vs.length with e | e
      · rw [List.length_eq_zero_iff.mp e] at hemp; simp at hemp
      · exact e
    refine' Calls.call_len_list (items := vs.toArray) ?l1 ?l2 ?l3
    case l1 => exact hl''
    case l2 => simp; omega
    have hsz : (vs.toArray.size : Int) = (vs.length : Int) := by simp
    rw [hsz]
    refine mod_int' (by omega) ?_
    have b0 : 0 ≤ n.fmod (vs.length : Int) := Int.fmod_nonneg_of_pos _ (by omega)
    have b1 : n.fmod (vs.length : Int) < (vs.length : Int) := Int.fmod_lt_of_pos _ (by omega)
    obtain ⟨v0, hv0⟩ : ∃ v0, vs[(n.fmod (vs.length : Int)).toNat]? = some v0 := ⟨_, List.getElem?_eq_getElem (by omega)⟩
    obtain ⟨i0, t0, rfl⟩ := ints_at hi hv0
    refine' item_listL (l := vs) ?j1 b0 (by omega) hv0 ?j2
    case j1 => exact hl''
    dsimp only
    iterate 5 walk_at "MINE step"
    exact h h' _ _ _ O'

theorem draw_run (hl : h₀.IsList l vs.toArray) (hi : IntsAre vs ns) (hlen : ns.length ≤ 1000) (B : Below A₀ base outer h₀) (F : Fr h₀ L s.heap m) (X₀ : (Mine.hd.heap_39 w.params).In h₀) (T : Top p loose mean mg mb h₀)
    (hA : A.frames = some (env :: outer)) (hf : env.frame = some L) (hke : env.scope.kind = .function) (hroom : A.depth + 1 < recursionLimit) (hh : A.handled = none)
    (ho : s.heap.get? f = some fo) (hd : fo.data = .func (fnX name qual (fnParams drawDef) (fnBody drawDef) (fnScope drawDef) [(Str.ofString "script", cS)] .none .none doc pm an cdv ct)) (hcd : s.heap.CodeRec cdv qual)
    (NP : News h₀ L s.heap [(cS, ocS)]) (hcSd : ocS.data = .cell (some (.ref l)))
    (h : ∀ h' tk v t, Old s.heap h' → Q (.int v t) { s with heap := h', toks := tk }) :
    wpAny (model PySem.Challenge.rw_fh5009_01.row.prog w) A (call (.ref f) [.int n tn]) Q E s := by
  obtain ⟨bd, eb⟩ : ∃ b, b = fnBody drawDef := ⟨_, rfl⟩
  obtain ⟨pr, ep⟩ : ∃ b, b = fnParams drawDef := ⟨_, rfl⟩
  obtain ⟨sc, es⟩ : ∃ b, b = fnScope drawDef := ⟨_, rfl⟩
  rw [← eb, ← ep, ← es] at hd
  conv at eb => rhs; whnf
  conv at ep => rhs; whnf
  conv at es => rhs; whnf
  subst eb ep es
  revert X₀; k_fill; intro X₀
  refine wpAny_call ?_
  refine' callX_S (binds := [(Str.ofString "place", .int n tn)]) B F NP T.nolimit hA hf hke ho hd hcd (Nat.lt_of_succ_lt hroom) ?kb ?kl ?_ ?k1 ?k2 ?k3 ?k4
  case kb => exact BindsTo.of_eq (by kernel_rfl)
  case kl => exact locs rfl
  case k1 => decide
  case k2 => rfl
  case k3 => rfl
  case k4 => rfl
  intro g L' h₁ FG F' N' B' st O G' hL'
  have X' := X₀.keeps st
  have T' := T.keeps st
  have hl' : g.IsList l vs.toArray := hl.at fun o e => FG.keep _ _ e
  dsimp only
  iterate 6 walk_at "MINE step"
  refine nameX_F N' (by kernel_rfl) (.head _) hcSd ?_ rfl (by kernel_rfl) (by kernel_rfl) (by kernel_rfl)
  iterate 3 walk_at "MINE step"
  refine ⟨X'.keeps F'.keep, ?_⟩
  refine law_number hl' hi hlen B' F' X' T' (Around.frames_deeper B'.stack) rfl rfl (by rw [depth_deeper]; exact hroom) hh ?_
  intro h₂ tk₂ v t old₂
  dsimp only
  exact h h₂ tk₂ v t (O.trans old₂)
end
end Mine

-- FhLaw
theorem Mine.anewFhLaw : True := by (w_top off); exact trivial
namespace Mine
open PySem PySem.W PyProof.Rows PySem.Calls

/-- all but the locals' own object stands -/
def ButL (L : Addr) (h h' : Heap) : Prop := ∀ b o, b ≠ L → h.get? b = some o → h'.get? b = some o
theorem ButL.trans {L : Addr} {h h' h'' : Heap} (x : ButL L h h') (y : ButL L h' h'') : ButL L h h'' := fun b o n e => y b o n (x b o n e)
theorem Old.butL {L : Addr} {h h' : Heap} (x : Old h h') : ButL L h h' := fun b o _ e => x b o e

theorem univ (h₀ h : Heap) (L : Addr) : ∃ led : List (Addr × Obj), News h₀ L h led ∧ ∀ b o, h.get? b = some o → b ≠ L → h₀.get? b = none → (b, o) ∈ led := by
  refine ⟨(List.range h.objs.size).filterMap fun b => if b = L ∨ (h₀.get? b).isSome then none else (h.get? b).map fun o => (b, o), fun q hq => ?_, fun b o e hb h0 => ?_⟩
  · obtain ⟨b, _, hb⟩ := List.mem_filterMap.mp hq
    by_cases hc : b = L ∨ (h₀.get? b).isSome
    · rw [if_pos hc] at hb; cases hb
    · rw [if_neg hc] at hb
      obtain ⟨o, ho, rfl⟩ := Option.map_eq_some_iff.mp hb
      refine ⟨ho, fun q => hc (.inl q), ?_⟩
      cases e : h₀.get? b with
      | none => rfl
      | some o' => exact absurd (.inr (by rw [e]; rfl)) hc
  · refine List.mem_filterMap.mpr ⟨b, List.mem_range.mpr (Heap.lt_size e), ?_⟩
    rw [if_neg (by rintro (q | q); exact hb q; rw [h0] at q; cases q), e]
    rfl

theorem butL_of {h₀ h h' : Heap} {L : Addr} {m m' : Str → Option Value} {led led' : List (Addr × Obj)} (F : Fr h₀ L h m) (F' : Fr h₀ L h' m') (hu : ∀ b o, h.get? b = some o → b ≠ L → h₀.get? b = none → (b, o) ∈ led)
    (N' : News h₀ L h' led') (hs : ∀ q ∈ led, q ∈ led') : ButL L h h' := fun b o hb e => by
  cases h0 : h₀.get? b with
  | none => exact (N' _ (hs _ (hu b o e hb h0))).1
  | some o' =>
    have := F.keep b o' h0
    rw [e] at this
    rw [show o = o' from Option.some.inj this]
    exact F'.keep b o' h0

theorem fr_butA {h₀ h h' : Heap} {L : Addr} {m : Str → Option Value} {as : List Addr} (F : Fr h₀ L h m) (off : Off h₀ L as) (x : ButA as h h') : Fr h₀ L h' m :=
  ⟨F.ns.at' fun o e => x _ o (fun q => (off _ q).1 rfl) e, fun b o e => x b o (fun q => by rw [(off _ q).2] at e; cases e) (F.keep b o e), F.above⟩

structure LawAt (w : World) (h₀ : Heap) (L : Addr) (h : Heap) (consts : List (Addr × Obj)) (D : KD) (P : Addr) (as : List Addr) (ρc ρp : List Row) : Prop where
  cache : CacheAt w h D ρc
  plain : PlainAt h P as ρp
  news : News h₀ L h consts
  offD : Off h₀ L D.adr
  offP : Off h₀ L (P :: as)
  sepD : ∀ q ∈ consts, q.1 ∉ D.adr
  sepP : ∀ q ∈ consts, q.1 ∉ P :: as
  sepDP : ∀ a ∈ D.adr, a ∉ P :: as

section
variable {w : World} {h₀ h h' : Heap} {L P : Addr} {consts : List (Addr × Obj)} {D : KD} {as as' : List Addr} {ρc ρp ρ' : List Row} {m : Str → Option Value}

theorem PlainAt.lt (x : PlainAt h P as ρp) : ∀ a ∈ P :: as, a < h.objs.size := fun a ha => by
  rcases List.mem_cons.mp ha with rfl | ha
  · obtain ⟨_, e⟩ := x.list; exact Heap.lt_size e
  · obtain ⟨j, hj⟩ := List.getElem?_of_mem ha
    obtain ⟨hj', _⟩ := List.getElem?_eq_some_iff.mp hj
    obtain ⟨_, _, _, _, e, _⟩ := x.rows j a (ρp[j]'(by rw [← x.len]; exact hj')) hj (List.getElem?_eq_getElem _)
    exact Heap.lt_size e

theorem PlainAt.at (x : PlainAt h P as ρp) (k : ∀ b ∈ P :: as, ∀ o, h.get? b = some o → h'.get? b = some o) : PlainAt h' P as ρp :=
  ⟨x.list.at fun o e => k _ (.head _) o e, x.len, fun i a r ha hr => by
    obtain ⟨t1, t2, t3, e⟩ := x.rows i a r ha hr
    exact ⟨t1, t2, t3, e.at fun o e => k _ (.tail _ (List.mem_of_getElem? ha)) o e⟩, x.nodup, x.off⟩

theorem LawAt.butL (x : LawAt w h₀ L h consts D P as ρc ρp) (k : ButL L h h') : LawAt w h₀ L h' consts D P as ρc ρp :=
  ⟨x.cache.at fun b hb o e => k b o (x.offD b hb).1 e, x.plain.at fun b hb o e => k b o (x.offP b hb).1 e, fun q hq => ⟨k _ _ (x.news q hq).2.1 (x.news q hq).1, (x.news q hq).2⟩, x.offD, x.offP, x.sepD, x.sepP, x.sepDP⟩

theorem LawAt.cacheOp (x : LawAt w h₀ L h consts D P as ρc ρp) (k : ButA D.adr h h') (c : CacheAt w h' D ρ') : LawAt w h₀ L h' consts D P as ρ' ρp :=
  ⟨c, x.plain.at fun b hb o e => k b o (fun q => x.sepDP b q hb) e, fun q hq => ⟨k _ _ (x.sepD q hq) (x.news q hq).1, (x.news q hq).2⟩, x.offD, x.offP, x.sepD, x.sepP, x.sepDP⟩

theorem LawAt.plainOp (x : LawAt w h₀ L h consts D P as ρc ρp) (F : Fr h₀ L h m) (k : ButA (P :: as) h h') (c : PlainAt h' P as' ρ') (sub : ∀ a ∈ as', a ∈ as ∨ h.get? a = none) : LawAt w h₀ L h' consts D P as' ρc ρ' := by
  have fresh : ∀ a, h.get? a = none → a ≠ L ∧ h₀.get? a = none := by
    intro a e
    refine ⟨fun q => ?_, ?_⟩
    · obtain ⟨_, _, _, e', _⟩ := F.ns
      rw [q, e'] at e; cases e
    · cases e' : h₀.get? a with
      | none => rfl
      | some o => rw [F.keep a o e'] at e; cases e
  refine ⟨x.cache.at fun b hb o e => k b o (x.sepDP b hb) e, c, fun q hq => ⟨k _ _ (x.sepP q hq) (x.news q hq).1, (x.news q hq).2⟩, x.offD, fun a ha => ?_, x.sepD, fun q hq ha => ?_, fun a hD ha => ?_⟩
  · rcases List.mem_cons.mp ha with rfl | ha
    · exact x.offP _ (.head _)
    · rcases sub a ha with h1 | h1
      · exact x.offP _ (.tail _ h1)
      · exact fresh a h1
  · rcases List.mem_cons.mp ha with ha | ha
    · exact x.sepP q hq (ha ▸ .head _)
    · rcases sub _ ha with h1 | h1
      · exact x.sepP q hq (.tail _ h1)
      · rw [(x.news q hq).1] at h1; cases h1
  · rcases List.mem_cons.mp ha with ha | ha
    · exact x.sepDP a hD (ha ▸ .head _)
    · rcases sub _ ha with h1 | h1
      · exact x.sepDP a hD (.tail _ h1)
      · have := x.cache.lt a hD
        exact absurd h1 (by
          obtain ⟨_, e⟩ := x.cache.dict
          obtain ⟨_, _, e1, _⟩ := x.cache.cache
          obtain ⟨_, _, e2, _⟩ := x.cache.usage
          simp only [KD.adr, List.mem_cons, List.not_mem_nil, or_false] at hD
          rcases hD with rfl | rfl | rfl | rfl
          · rw [x.cache.inst]; simp
          · rw [e]; simp
          · rw [e1]; simp
          · rw [e2]; simp)
end

/-- a nested def of the law, made -/
def MadeFn (consts : List (Addr × Obj)) (f : Addr) (df : Stmt) (cl : List (Str × Addr)) : Prop :=
  ∃ fo name qual doc pm ct an c oc vs t, (f, fo) ∈ consts ∧ fo.data = .func (fnX name qual (fnParams df) (fnBody df) (fnScope df) cl .none .none doc pm an (.ref c) ct) ∧ (c, oc) ∈ consts ∧ oc.data = .fields vs ∧ vs[1]? = some (.str qual t)
end Mine

-- FhCtx
theorem Mine.anewFhCtx : True := by (w_top off); exact trivial
namespace Mine
open PySem PySem.W PyProof.Rows PySem.Calls
local macro_rules | `(tactic| walk_at "MINE step") => `(tactic| first | (k_unfold; (try dsimp only)) | (k_end; wrow_close) | walk1 | (dsimp only; walk1) | (leave1; walk_say "STEP leave1"; try dsimp only) | fail "no step")
local macro_rules | `(tactic| k_all) => `(tactic| assumption)

def forBody : Stmt → List Stmt
  | .For _ _ b _ _ => b
  | _ => []
abbrev lawEnv (qual : Str) (L fa : Addr) (cdv : Value) (cl : List (Str × Addr)) : Env := envX qual (fnScope lawDef) L fa cdv cl

structure Ctx (w : World) (A₀ A : Around) (base h₀ : Heap) (outer : List Env) (L : Addr) (mg mb : Str → Option Value) (loose : List Str) (mean : ExcName → Option Value) (p : Program) (env : Env) (cl : List (Str × Addr)) (consts : List (Addr × Obj)) (D : KD) (P fD fW fE l : Addr) (vs : List Value) (ns : List Int) : Prop where
  B : Below A₀ base outer h₀
  X₀ : (Mine.hd.heap_39 w.params).In h₀
  T : Top p loose mean mg mb h₀
  hA : A.frames = some (env :: outer)
  hroom : A.depth + 3 < recursionLimit
  hh : A.handled = none
  hl : h₀.IsList l vs.toArray
  hi : IntsAre vs ns
  hlen : ns.length ≤ 1000
  ok : D.Ok
  sz0 : 1 ≤ D.size
  sz1 : D.size ≤ 21
  ch0 : 1 ≤ D.chop
  ch1 : D.chop ≤ D.size
  cS : ∃ c o, cl.lookup (Str.ofString "script") = some c ∧ (c, o) ∈ consts ∧ o.data = .cell (some (.ref l)) ∧ MadeFn consts fD drawDef [(Str.ofString "script", c)]
  cK : ∃ c o, cl.lookup (Str.ofString "keep") = some c ∧ (c, o) ∈ consts ∧ o.data = .cell (some (.ref D.kx))
  cP : ∃ c o, cl.lookup (Str.ofString "plain") = some c ∧ (c, o) ∈ consts ∧ o.data = .cell (some (.ref P)) ∧ MadeFn consts fW whereDef [(Str.ofString "plain", c)] ∧
    ∃ c' o' t', (c', o') ∈ consts ∧ o'.data = .cell (some (.int D.chop t')) ∧ MadeFn consts fE evictDef [(Str.ofString "plain", c), (Str.ofString "chop", c')]

structure LM (D : KD) (fD fW fE : Addr) (m : Str → Option Value) : Prop where
  size : ∃ t, m (Str.ofString "size") = some (.int D.size t)
  draw : m (Str.ofString "draw") = some (.ref fD)
  whr : m (Str.ofString "where") = some (.ref fW)
  evict : m (Str.ofString "evict") = some (.ref fE)

def Bnd (D : KD) (ρ : List Row) : Prop := (ρ.length : Int) ≤ D.size ∧ ∀ k ∈ keysOf ρ, 0 ≤ k ∧ k < D.size + 3

/-- the law's state between two statements -/
def LSt (w : World) (h₀ : Heap) (L : Addr) (consts : List (Addr × Obj)) (D : KD) (P fD fW fE : Addr) (s : Shared) (s' : Shared) : Prop :=
  ∃ h' tk m' as' ρ', s' = { s with heap := h', toks := tk } ∧ Fr h₀ L h' m' ∧ LM D fD fW fE m' ∧ LawAt w h₀ L h' consts D P as' ρ' ρ' ∧ Bnd D ρ'

section
variable {w : World} {A₀ A : Around} {s : Shared} {base h₀ : Heap} {outer : List Env} {L : Addr} {m mg mb : Str → Option Value} {loose : List Str} {mean : ExcName → Option Value} {p : Program}
  {ρ : List Row} {as : List Addr} {P fD fW fE l fa : Addr} {cl : List (Str × Addr)} {consts : List (Addr × Obj)} {D : KD} {vs : List Value} {ns : List Int} {E : Value → Shared → Prop} {qual : Str} {cdv : Value}

theorem MadeFn.fnAt {consts : List (Addr × Obj)} {f : Addr} {df : Stmt} {cl : List (Str × Addr)} {h₀ h : Heap} {L : Addr} (x : MadeFn consts f df cl) (N : News h₀ L h consts) : FnAt f h := by
  obtain ⟨⟨oc, od, dt, sl⟩, _, _, _, _, _, _, _, _, _, _, hfo, hfd, _⟩ := x
  dsimp only at hfd
  subst hfd
  exact ⟨oc, od, _, sl, (N _ hfo).1⟩

theorem Ctx.fnD {env : Env} {h : Heap} (C : Ctx w A₀ A base h₀ outer L mg mb loose mean p env cl consts D P fD fW fE l vs ns) (N : News h₀ L h consts) : FnAt fD h := by
  obtain ⟨c, o, _, hc, hco, M⟩ := C.cS
  exact M.fnAt N
theorem Ctx.fnW {env : Env} {h : Heap} (C : Ctx w A₀ A base h₀ outer L mg mb loose mean p env cl consts D P fD fW fE l vs ns) (N : News h₀ L h consts) : FnAt fW h := by
  obtain ⟨c, o, _, hc, hco, M, _⟩ := C.cP
  exact M.fnAt N
theorem Ctx.fnE {env : Env} {h : Heap} (C : Ctx w A₀ A base h₀ outer L mg mb loose mean p env cl consts D P fD fW fE l vs ns) (N : News h₀ L h consts) : FnAt fE h := by
  obtain ⟨c, o, _, hc, hco, _, c', o', t', hc', hco', M⟩ := C.cP
  exact M.fnAt N

theorem ctx_draw {Q : Value → Shared → Prop} {n : Int} {tn : Tok} {env : Env} (C : Ctx w A₀ A base h₀ outer L mg mb loose mean p env cl consts D P fD fW fE l vs ns) (hf : env.frame = some L) (hke : env.scope.kind = .function)
    (F : Fr h₀ L s.heap m) (N : News h₀ L s.heap consts) (h : ∀ h' tk v t, Old s.heap h' → Q (.int v t) { s with heap := h', toks := tk }) :
    wpAny (model PySem.Challenge.rw_fh5009_01.row.prog w) A (call (.ref fD) [.int n tn]) Q E s := by
  obtain ⟨c, o, _, hc, hco, fo, name, q, doc, pm, ct, an, cc, oc, us, t, hfo, hfd, hoc, hocd, hus⟩ := C.cS
  exact draw_run C.hl C.hi C.hlen C.B F C.X₀ C.T C.hA hf hke (by have := C.hroom; omega) C.hh (N _ hfo).1 hfd ⟨cc, oc, us, t, rfl, (N _ hoc).1, hocd, hus⟩ (fun q hq => by rw [List.mem_singleton.mp hq]; exact N _ hc) hco h

theorem ctx_where {Q : Value → Shared → Prop} {k : Int} {kt : Tok} {env : Env} {ρc : List Row} (C : Ctx w A₀ A base h₀ outer L mg mb loose mean p env cl consts D P fD fW fE l vs ns) (hf : env.frame = some L) (hke : env.scope.kind = .function)
    (F : Fr h₀ L s.heap m) (LA : LawAt w h₀ L s.heap consts D P as ρc ρ) (hsz : ρ.length ≤ 1000)
    (h : ∀ W h' tk ys, s.heap.get? W = none → h'.PlainList W ys → IntsAre ys.toList ((places (·.1) k ρ).map Int.ofNat) → Old s.heap h' → Q (.ref W) { s with heap := h', toks := tk }) :
    wpAny (model PySem.Challenge.rw_fh5009_01.row.prog w) A (call (.ref fW) [.int k kt]) Q E s := by
  obtain ⟨c, o, _, hc, hco, ⟨fo, name, q, doc, pm, ct, an, cc, oc, us, t, hfo, hfd, hoc, hocd, hus⟩, _⟩ := C.cP
  exact where_run LA.plain C.B F C.X₀ C.T C.hA hf hke (by have := C.hroom; omega) C.hh (LA.news _ hfo).1 hfd ⟨cc, oc, us, t, rfl, (LA.news _ hoc).1, hocd, hus⟩ (fun q hq => by rw [List.mem_singleton.mp hq]; exact LA.news _ hc) hco hsz h

theorem ctx_evict {Q : Value → Shared → Prop} {env : Env} {ρc : List Row} (C : Ctx w A₀ A base h₀ outer L mg mb loose mean p env cl consts D P fD fW fE l vs ns) (hf : env.frame = some L) (hke : env.scope.kind = .function)
    (F : Fr h₀ L s.heap m) (LA : LawAt w h₀ L s.heap consts D P as ρc ρ) (hsz : ρ.length ≤ 1000) (hnd : (keysOf ρ).Nodup) (hnl : D.chop.toNat ≤ ρ.length)
    (h : ∀ h' tk as', LawAt w h₀ L h' consts D P as' ρc (evictN D.chop.toNat ρ) → Fr h₀ L h' m → Q .none { s with heap := h', toks := tk }) :
    wpAny (model PySem.Challenge.rw_fh5009_01.row.prog w) A (call (.ref fE) []) Q E s := by
  obtain ⟨c, o, _, hc, hco, _, c', o', t', hc', hco', fo, name, q, doc, pm, ct, an, cc, oc, us, t, hfo, hfd, hoc, hocd, hus⟩ := C.cP
  refine evict_run LA.plain C.B F C.X₀ C.T C.hA hf hke (by have := C.hroom; omega) C.hh (LA.news _ hfo).1 hfd ⟨cc, oc, us, t, rfl, (LA.news _ hoc).1, hocd, hus⟩ (fun q hq => ?_) hco hco' (LA.offP _ (.head _)) (by have := C.ch0; omega) hnl hsz hnd ?_
  · simp only [List.mem_cons, List.not_mem_nil, or_false] at hq
    rcases hq with rfl | rfl
    · exact LA.news _ hc
    · exact LA.news _ hc'
  · intro h' tk as' HP' hsub hb
    have hb' : ButA (P :: as) s.heap h' := fun b o hn e => hb b o (fun q => hn (by rw [List.mem_singleton.mp q]; exact .head _)) e
    exact h h' tk as' (LA.plainOp F hb' HP' fun a ha => .inl (hsub a ha)) (fr_butA F LA.offP hb')
end
end Mine

-- FhChk
theorem Mine.anewFhChk : True := by (w_top off); exact trivial
namespace Mine
open PySem PySem.W PyProof.Rows PySem.Calls

theorem ints_of_get : ∀ {vs : List Value} {ns : List Int}, vs.length = ns.length → (∀ (j : Nat) v k, vs[j]? = some v → ns[j]? = some k → ∃ t, v = .int k t) → IntsAre vs ns
  | [], [], _, _ => .nil
  | [], _ :: _, h, _ => by cases h
  | _ :: _, [], h, _ => by cases h
  | v :: vs, n :: ns, h, k => by
    obtain ⟨t, rfl⟩ := k 0 v n rfl rfl
    exact .cons n t (ints_of_get (Nat.succ.inj h) fun j v' k' e e' => k (j + 1) v' k' e e')

theorem ints_filter {p : Value → Bool} {q : Int → Bool} (hp : ∀ k t, p (.int k t) = q k) : ∀ {vs : List Value} {ns : List Int}, IntsAre vs ns → IntsAre (vs.filter p) (ns.filter q)
  | _, _, .nil => .nil
  | _, _, .cons n t r => by
    rw [List.filter_cons, List.filter_cons, hp]
    by_cases h : q n = true
    · rw [if_pos h, if_pos h]; exact .cons n t (ints_filter hp r)
    · rw [if_neg h, if_neg h]; exact ints_filter hp r

theorem paired_eq : ∀ {xs ys : List Value}, Paired (fun v y => y = v) xs ys → ys = xs
  | _, _, .nil => rfl
  | _, _, .cons h r => by rw [h, paired_eq r]

theorem range_eq_sorted {N : Nat} {keys ns' : List Int} (nd : keys.Nodup) (hb : ∀ k ∈ keys, 0 ≤ k ∧ k < (N : Int)) (hp : ns'.Perm keys) (hs : ns'.Pairwise (· ≤ ·)) :
    ((List.range N).map Int.ofNat).filter (fun k => decide (k ∈ keys)) = ns' := by
  have hlt : ((List.range N).map Int.ofNat).Pairwise (· < ·) := by
    rw [List.pairwise_map]
    exact List.pairwise_lt_range.imp fun h => Int.ofNat_lt.mpr h
  have hn1 : (((List.range N).map Int.ofNat).filter (fun k => decide (k ∈ keys))).Pairwise (· < ·) := hlt.filter _
  have hnd1 : (((List.range N).map Int.ofNat).filter (fun k => decide (k ∈ keys))).Nodup := hn1.imp fun h => Int.ne_of_lt h
  refine List.Perm.eq_of_pairwise (le := fun a b => a ≤ b) (fun a b _ _ h1 h2 => Int.le_antisymm h1 h2) (hn1.imp fun h => Int.le_of_lt h) hs (List.Perm.trans ?_ hp.symm)
  refine (List.perm_ext_iff_of_nodup hnd1 nd).mpr fun k => ?_
  rw [List.mem_filter, List.mem_map]
  constructor
  · rintro ⟨_, h⟩; simpa using h
  · intro h
    refine ⟨⟨k.toNat, List.mem_range.mpr ?_, ?_⟩, by simpa using h⟩
    · have := hb k h; omega
    · have := hb k h; show ((k.toNat : Nat) : Int) = k; omega

section
variable {prog : Program} {w : World} {A : Around} {E : Value → Shared → Prop} {s : Shared}
theorem sorted_sem {l : Addr} {ys : Array Value} {ns : List Int} {Q : Value → Shared → Prop} (hl : s.heap.IsList l ys) (hI : IntsAre ys.toList ns) (h64 : ns.length < 64)
    (h : ∀ D h' vs' ns', Old s.heap h' → h'.IsList D (List.toArray vs') → IntsAre vs' ns' → ns'.Perm ns → ns'.Pairwise (· ≤ ·) → Q (.ref D) { s with heap := h' }) :
    wpAny (model prog w) A (call (.builtin "sorted") [.ref l]) Q E s := by
  have e1 := hI.length
  obtain ⟨vs⟩ := ys
  refine sorted_ints hl hI (by rw [e1]; exact h64) fun out ns' a1 a2 a3 => ?_
  obtain ⟨e, he⟩ := sortedAll_at s.heap vs out
  exact h _ _ out.toList ns' (fun _ _ => sortedAll_old) ⟨_, he, rfl, _, rfl⟩ a1 a2 a3

/-- [x for x in range(n) if x in keep] -/
theorem compKeep {env : Env} {iter : PySem.Expr} {x y : Str} {px px' pe py pq pos : Pos} {scope : Scope} {cl : List (Str × Addr)} {w : World} {A : Around} {s : Shared} {E : Value → Shared → Prop} {Q : Value → Shared → Prop} {D : KD} {ρ : List Row} {c : Addr} {oc : Obj} {n : Int} (hh : A.handled = none)
    {A₀ : Around} {base h₀ : Heap} {outer : List Env} {L : Addr} {m mg mb : Str → Option Value} {env₀ : Env} {loose : List Str} {mean : ExcName → Option Value} {p : Program}
    (CA : CacheAt w s.heap D ρ) (hok : D.Ok) (off : Off h₀ L D.adr) (B : Below A₀ base outer h₀) (F : Fr h₀ L s.heap m) (X₀ : (Mine.hd.heap_39 w.params).In h₀) (T : Top p loose mean mg mb h₀)
    (hA : A.frames = some (env₀ :: outer)) (hf : env₀.frame = some L) (hke : env₀.scope.kind = .function) (hroom : A.depth < recursionLimit)
    (hn0 : 0 ≤ n) (hn1 : n ≤ 1000)
    (hclos : closureFor scope env = pure cl) (hcell : ∀ y ∈ scope.names, y.2 ≠ .cell) (hkind : scope.kind = .function)
    (hnames : ∀ y ∈ scope.names, y.2 = .local → scope.names.lookup y.1 = some .local) (hx : scope.names.lookup x = some .local) (hdx : (x == ("__debug__" : Str)) = false)
    (hy : (relabel scope env).names.lookup y = some .cell) (hdy : (y == ("__debug__" : Str)) = false) (hc : cl.lookup y = some c) (ho : s.heap.get? c = some oc) (hoc : oc.data = .cell (some (.ref D.kx)))
    (h : wpAny (model PySem.Challenge.rw_fh5009_01.row.prog w) A (eval iter env) (fun xv s₁ => ∃ r t u v, xv = .ref r ∧ IsRange s₁.heap r 0 n 1 t u v ∧ Keeps s s₁) E s)
    (hQ : ∀ W h' tk ys, h'.PlainList W ys → IntsAre ys.toList (((List.range n.toNat).map Int.ofNat).filter fun k => decide (k ∈ keysOf ρ)) → Old s.heap h' → Q (.ref W) { s with heap := h', toks := tk })
    (hs : ∀ x, foldedSetIterable iter env x = pure x := by intro _; rfl) :
    wpAny (model PySem.Challenge.rw_fh5009_01.row.prog w) A (eval (.ListComp (.Name x pe) [⟨.Name x px', iter, [.Compare (.Name x px) [.In] [.Name y py] pq], 0⟩] scope pos) env) Q E s := by
  refine wpAny_ListComp_free (fun v => match v with | .int k _ => decide (k ∈ keysOf ρ) | _ => false) (fun v y => y = v) hclos hcell hkind hnames hx (wpAny_mono h (fun xv s₁ h₁ => ?_) fun _ _ e => e) hs
  obtain ⟨r, t, u, v, rfl, hR, h₁, tk₁, rfl, old₁⟩ := h₁
  dsimp only at hR
  refine wpAny_pyIter_range hR (small_one (by decide) (by decide) (by omega) (by omega)) ?_
  have hsz : Builtin.Range.rangeSize 0 n 1 = (n.toNat : Int) := by rw [rangeSize_nat]; simp
  rw [hsz]
  have old2 : Old h₁ (h₁.push { cls := .type "range_iterator", data := .fields #[rawInt 0, rawInt (n.toNat : Int), rawInt 1] }) := Old.push _ _
  have old12 : Old s.heap (h₁.push { cls := .type "range_iterator", data := .fields #[rawInt 0, rawInt (n.toNat : Int), rawInt 1] }) := Old.trans old₁ old2
  have hI : s.heap.get? h₁.objs.size = none := by
    cases e : s.heap.get? h₁.objs.size with
    | none => rfl
    | some o => exact absurd (Heap.lt_size (old₁ _ _ e)) (Nat.lt_irrefl _)
  have up : ∀ (H : Heap), (∀ b o, b ∉ [h₁.objs.size] → (h₁.push { cls := .type "range_iterator", data := .fields #[rawInt 0, rawInt (n.toNat : Int), rawInt 1] }).get? b = some o → H.get? b = some o) → Old s.heap H := fun H hk b o e =>
    hk b o (fun q => by rw [List.mem_singleton.mp q, hI] at e; cases e) (old12 b o e)
  refine ⟨h₁.objs.size, _, _, _, _, _, rfl, PyProof.Rows.LCg.range_walks hh 0 n.toNat, by rw [sizeLine_eq]; omega, ?_, fun b hb => ?_, ⟨?_, ?_⟩, ?_⟩
  · show IsRangeIter _ _ _ _ _
    simpa using Heap.get?_push_size _ rfl
  · rw [List.mem_singleton.mp hb]
    show _ < (h₁.push _).objs.size
    rw [Heap.size_push]
    exact Nat.lt_succ_self _
  · rintro C i v s₃ m₃ E' hC ⟨t, rfl⟩ hn hm hk htk
    have o3 : Old s.heap s₃.heap := up _ hk
    refine wpAny_tests_one ?_
    refine wpAny_isTrue_Compare1 ?_
    refine wpAny_Name (wpAny_loadName_local (v := .int (0 + (i : Int)) t) (by show (relabel scope env).kind = _; exact hkind) (lookup_relabel_local hx) hn hm ?_) hdx
    refine wpAny_Name (wpAny_loadName_cell (c := c) (v := .ref D.kx) (by show (relabel scope env).kind = _; exact hkind) hy hc ⟨oc, o3 _ _ ho, hoc⟩ ?_) hdy
    refine keep_in (CA.old o3) hok off B (F.keeps o3) X₀ T hA hf hke hroom fun h' tk o4 => ?_
    exact wpAny_truthy_bool ⟨rfl, _, _, rfl, o4⟩
  · rintro C i v s₃ m₃ E' hC ⟨t, rfl⟩ hpv hn hm hk htk
    refine wpAny_Name (wpAny_loadName_local (v := .int (0 + (i : Int)) t) (by show (relabel scope env).kind = _; exact hkind) (lookup_relabel_local hx) hn hm ?_) hdx
    exact ⟨rfl, _, _, rfl, fun b o e => e⟩
  · intro W h' tk ys vs hW hl hpl hlen hP hF hk
    refine hQ W h' tk ys hpl ?_ (up _ hk)
    rw [paired_eq hF]
    refine ints_filter (fun _ _ => rfl) (ints_of_get (by simp [hlen]) fun j v k e e' => ?_)
    obtain ⟨t, rfl⟩ := hP j v e
    rw [List.getElem?_map] at e'
    obtain ⟨j', e1, rfl⟩ := Option.map_eq_some_iff.mp e'
    rw [List.getElem?_range (by
      have := (List.getElem?_eq_some_iff.mp e).1
      omega)] at e1
    cases e1
    exact ⟨t, by rw [Int.zero_add]; rfl⟩
end
end Mine

-- FhSegD
theorem Mine.anewFhSegD : True := by (w_top off); exact trivial
namespace Mine
open PySem PySem.W PyProof.Rows PySem.Calls
local macro_rules | `(tactic| walk_at "MINE step") => `(tactic| first | (k_unfold; (try dsimp only)) | (k_end; wrow_close) | walk1 | (dsimp only; walk1) | (leave1; walk_say "STEP leave1"; try dsimp only) | fail "no step")
local macro_rules | `(tactic| k_all) => `(tactic| assumption)

theorem chain4 {m : Str → Option Value} {b c d e : Str} {vb vc vd ve : Option Value} (hb : m b = vb) (hc : m c = vc) (hd : m d = vd) (he : m e = ve) :
    m = fun y => if y = b then vb else if y = c then vc else if y = d then vd else if y = e then ve else m y := by
  funext y
  by_cases h2 : y = b
  · rw [if_pos h2, h2]; exact hb
  by_cases h3 : y = c
  · rw [if_neg h2, if_pos h3, h3]; exact hc
  by_cases h4 : y = d
  · rw [if_neg h2, if_neg h3, if_pos h4, h4]; exact hd
  by_cases h5 : y = e
  · rw [if_neg h2, if_neg h3, if_neg h4, if_pos h5, h5]; exact he
  rw [if_neg h2, if_neg h3, if_neg h4, if_neg h5]

def restD : List Stmt := (forBody (nth (fnBody lawDef) 6)).drop 4
section
variable {w : World} {s : Shared} {h₀ : Heap} {L : Addr} {m mg mb : Str → Option Value} {loose : List Str} {mean : ExcName → Option Value} {p : Program}
  {ρ : List Row} {as : List Addr} {P fD fW fE l fa : Addr} {cl : List (Str × Addr)} {consts : List (Addr × Obj)} {D : KD} {vs : List Value} {ns : List Int} {E : Value → Shared → Prop} {qual : Str} {cdv : Value}

theorem segD (C : Ctx w callerA (callerA.deeper (lawEnv qual L fa cdv cl)) h₀ h₀ [] L mg mb loose mean p (lawEnv qual L fa cdv cl) cl consts D P fD fW fE l vs ns) (F : Fr h₀ L s.heap m) (lm : LM D fD fW fE m)
    (LA : LawAt w h₀ L s.heap consts D P as ρ ρ) (bd : Bnd D ρ) :
    wpAny (model PySem.Challenge.rw_fh5009_01.row.prog w) (callerA.deeper (lawEnv qual L fa cdv cl)) (execs restD (lawEnv qual L fa cdv cl)) (fun f s' => f = .next ∧ LSt w h₀ L consts D P fD fW fE s s') E s := by
  have Cx := C
  obtain ⟨B, X₀, T, hA, hroom, hh, hl, hi, hlen, ok, sz0, sz1, ch0, ch1, cS, ⟨cK, oK, hcK, hcKm, hcKd⟩, cP, oP, hcP, hcPm, hcPd, _⟩ := C
  obtain ⟨b, eb⟩ : ∃ b, b = restD := ⟨_, rfl⟩
  rw [← eb]
  conv at eb => rhs; whnf
  subst eb
  unfold lawEnv at Cx ⊢
  obtain ⟨sc, es⟩ : ∃ b, b = fnScope lawDef := ⟨_, rfl⟩
  rw [← es] at Cx ⊢
  conv at es => rhs; whnf
  subst es
  revert X₀; k_fill; intro X₀
  obtain ⟨ts, hsize⟩ := lm.size
  have hdraw := lm.draw
  have hwhr := lm.whr
  have hevict := lm.evict
  rw [chain4 hsize hdraw hwhr hevict] at F
  have hlen1 : (ρ.length : Int) ≤ 21 := by have := bd.1; omega
  have N := LA.news
  iterate 8 walk_at "MINE step"
  refine nameX_C N hcK hcKm hcKd ?_ rfl (by kernel_rfl) (by kernel_rfl)
  iterate 1 walk_at "MINE step"
  refine keep_len LA.cache LA.offD B F X₀ T hA rfl rfl (Nat.lt_of_le_of_lt (Nat.le_add_right _ 3) hroom) (by omega) ?_
  intro h₁ tk₁ t₁ old₁
  have F₁ := F.keeps old₁
  have LA₁ := LA.butL (Old.butL old₁)
  have N₁ := LA₁.news
  iterate 4 walk_at "MINE step"
  refine nameX_C N₁ hcP hcPm hcPd ?_ rfl (by kernel_rfl) (by kernel_rfl)
  iterate 1 walk_at "MINE step"
  have hpsz : ((as.map Value.ref).toArray.size : Int) = (ρ.length : Int) := by simp [LA₁.plain.len]
  refine' Calls.call_len_list (items := (as.map Value.ref).toArray) ?c1 ?c2 ?c3
  case c1 => exact LA₁.plain.list.isList
  case c2 => omega
  rw [hpsz]
  refine ne_int ?_
  rw [show ((ρ.length : Int) != (ρ.length : Int)) = false by simp]
  iterate 8 walk_at "MINE step"
  refine nameX_C N₁ hcP hcPm hcPd ?_ rfl (by kernel_rfl) (by kernel_rfl)
  iterate 1 walk_at "MINE step"
  refine' Calls.call_len_list (items := (as.map Value.ref).toArray) ?d1 ?d2 ?d3
  case d1 => exact LA₁.plain.list.isList
  case d2 => omega
  rw [hpsz]
  iterate 1 walk_at "MINE step"
  refine gt_int ?_
  rw [show decide ((ρ.length : Int) > D.size) = false by have := bd.1; simp; omega]
  iterate 9 walk_at "MINE step"
  refine' compKeep (n := D.size + 3) (c := cK) (oc := oK) (cl := [(Str.ofString "keep", cK)]) hh LA₁.cache ok LA₁.offD B F₁ X₀ T hA rfl rfl (Nat.lt_of_le_of_lt (Nat.le_add_right _ 3) hroom) (by omega) (by omega) ?kc ?kl ?kk ?kn ?kx ?ky ?kz ?kd ?ks (LA₁.news _ hcKm).1 hcKd ?ki ?kQ
  case kc =>
    have hco : ∀ sc, cellOf (envX qual sc L fa cdv cl) (Str.ofString "keep") = pure cK := by intro sc; unfold cellOf; rw [hcK]
    unfold closureFor
    simp [hco]
  case kl => decide
  case kk => rfl
  case kn => decide
  case kx => kernel_rfl
  case ky => kernel_rfl
  case kz => kernel_rfl
  case kd => kernel_rfl
  case ks => kernel_rfl
  case ki =>
    iterate 9 walk_at "MINE step"
    refine call_range_1 ?_
    exact ⟨_, _, _, _, rfl, IsRange.new .., _, _, rfl, Old.push _ _⟩
  case kQ =>
    intro W₂ h₂ tk₂ ys₂ hW₂ hi₂ old₂
    have F₂ := F₁.keeps old₂
    have LA₂ := LA₁.butL (Old.butL old₂)
    have N₂ := LA₂.news
    iterate 4 walk_at "MINE step"
    refine' compField (cl := []) (fun r => r.1) hh LA₂.plain ?q1 (by decide) (by decide) ?q2 ?q3 ?q4 ?q5 ?q6 ?q7 ?q8 ?q9 ?q10
    case q1 => omega
    case q2 => exact fun r t1 t2 t3 => ⟨t1, rfl⟩
    case q3 => kernel_rfl
    case q4 => decide
    case q5 => rfl
    case q6 => decide
    case q7 => kernel_rfl
    case q8 => kernel_rfl
    case q9 =>
      intro Q' hQ'
      exact nameX_C N₂ hcP hcPm hcPd hQ' rfl (by kernel_rfl) (by kernel_rfl)
    case q10 =>
      intro W₃ h₃ tk₃ ys₃ hW₃ hl₃ hi₃ old₃
      have F₃ := F₂.keeps old₃
      have LA₃ := LA₂.butL (Old.butL old₃)
      have N₃ := LA₃.news
      iterate 1 walk_at "MINE step"
      refine' sorted_sem (ys := ys₃) (ns := ρ.map (·.1)) ?r1 hi₃ ?r2 ?r3
      case r1 => exact hl₃.isList
      case r2 => rw [List.length_map]; omega
      intro W₄ h₄ vs₄ ns₄ old₄ hl₄ hi₄ hp₄ ho₄
      have F₄ := F₃.keeps old₄
      have LA₄ := LA₃.butL (Old.butL old₄)
      have old₂₄ : Old h₂ h₄ := Old.trans old₃ old₄
      have hl₂ : h₄.IsList W₂ ys₂.toList.toArray := by simpa using hW₂.isList.at fun o e => old₂₄ _ _ e
      have heq : (((List.range (D.size + 3).toNat).map Int.ofNat).filter fun k => decide (k ∈ keysOf ρ)) = ns₄ :=
        range_eq_sorted LA.cache.nodup (fun k hk => by have := bd.2 k hk; omega) hp₄ ho₄
      refine' ke_ne_ints ?u1 ?u2 hi₂ hi₄ ?u3 ?u4
      case u1 => exact hl₂
      case u2 => exact hl₄
      case u3 => simp only [units_deeper, units_caller]; decide
      rw [heq]
      simp only [decide_true, Bool.not_true]
      iterate 3 walk_at "MINE step"
      dsimp only
      refine wpAny_execs_nil ⟨rfl, h₄, _, _, as, ρ, rfl, F₄, ⟨⟨ts, rfl⟩, rfl, rfl, rfl⟩, LA₄, bd⟩
end
end Mine

-- FhKeep
theorem Mine.anewFhKeep : True := by (w_top off); exact trivial
namespace Mine
open PySem PySem.W PyProof.Rows PySem.Calls
local macro_rules | `(tactic| k_all) => `(tactic| assumption)

def roomed (D : KD) (ρ : List Row) : List Row := if D.size ≤ (ρ.length : Int) then evictN D.chop.toNat ρ else ρ

section
variable {w : World} {A₀ A : Around} {s : Shared} {base h₀ : Heap} {outer : List Env} {L : Addr} {m mg mb : Str → Option Value} {env : Env} {loose : List Str} {mean : ExcName → Option Value} {p : Program}
  {D : KD} {ρ : List Row} {E : Value → Shared → Prop} {k v c : Int} {kt tv : Tok} {news : List (Addr × Obj)}

theorem keep_setItem {Q : Unit → Shared → Prop} (CA : CacheAt w s.heap D ρ) (hok : D.Ok) (off : Off h₀ L D.adr) (B : Below A₀ base outer h₀) (F : Fr h₀ L s.heap m) (X₀ : (Mine.hd.heap_39 w.params).In h₀) (T : Top p loose mean mg mb h₀)
    (hA : A.frames = some (env :: outer)) (hf : env.frame = some L) (hke : env.scope.kind = .function) (hroom : A.depth < recursionLimit) (hsz : ρ.length < 64) (hh : A.handled = none) (hc1 : 1 ≤ D.chop) (hcs : D.chop ≤ D.size)
    (h : ∀ h' tk, CacheAt w h' D (put k v (roomed D ρ)) → ButA D.adr s.heap h' → Q () { s with heap := h', toks := tk }) :
    wpAny (model PySem.Challenge.rw_fh5009_01.row.prog w) A (setItem (.ref D.kx) (.int k kt) (.int v tv)) Q E s := by
  obtain ⟨tn, oc, ou, ck, uk, N, _⟩ := CA.news off
  have X₁ := X₀
  revert X₀; k_fill; intro X₀
  refine' ksp_setItem (f := 57) ?k1 ?k2 ?k3 ?k4 ?k5 ?k6 ?_
  case k1 => k_asm
  case k2 => k_asm
  case k3 => k_inst
  case k4 => k_is
  case k5 => k_is
  case k6 => k_is
  by_cases hfull : D.size ≤ (ρ.length : Int)
  · refine keep_set_full CA hok off B F X₁ T hA hf hke hroom hsz hh hfull hc1 hcs fun h' tk c' b' => ?_
    exact h h' tk (by unfold roomed; rw [if_pos hfull]; exact c') b'
  · refine keep_set_low CA hok off B F X₁ T hA hf hke hroom hsz hfull fun h' tk c' b' => ?_
    exact h h' tk (by unfold roomed; rw [if_neg hfull]; exact c') b'

theorem keep_sub {value slice : PySem.Expr} {Q : Value → Shared → Prop} (CA : CacheAt w s.heap D ρ) (hok : D.Ok) (off : Off h₀ L D.adr) (B : Below A₀ base outer h₀) (F : Fr h₀ L s.heap m) (X₀ : (Mine.hd.heap_39 w.params).In h₀) (T : Top p loose mean mg mb h₀)
    (hA : A.frames = some (env :: outer)) (hf : env.frame = some L) (hke : env.scope.kind = .function) (hroom : A.depth < recursionLimit) (hr : (k, v, c) ∈ ρ) (hsz : ρ.length ≤ 1000)
    (h : ∀ h' tk t, CacheAt w h' D (bump k ρ) → ButA D.adr s.heap h' → Q (.int v t) { s with heap := h', toks := tk })
    (hsl : subscripted slice true (.ref D.kx) (.int k kt) = runValue (.builtin "lifetime.subscript" ⟨[.ref D.kx, .int k kt], []⟩) := by with_unfolding_all rfl) :
    wpAny (model PySem.Challenge.rw_fh5009_01.row.prog w) A (subscriptTail value slice (.ref D.kx) (.int k kt)) Q E s := by
  obtain ⟨tn, oc, ou, ck, uk, N, _⟩ := CA.news off
  have X₁ := X₀
  revert X₀; k_fill; intro X₀
  refine' sub_K (f := 43) ?k1 ?k2 ?k3 ?k4 ?k5 ?k6 ?_ hsl
  case k1 => k_asm
  case k2 => k_asm
  case k3 => k_inst
  case k4 => k_is
  case k5 => k_is
  case k6 => k_is
  exact keep_get CA hok off B F X₁ T (by exact hA) hf hke (by exact hroom) hr hsz h

theorem keep_sub_miss {value slice : PySem.Expr} {Q : Value → Shared → Prop} (CA : CacheAt w s.heap D ρ) (hok : D.Ok) (B : Below A₀ base outer h₀) (F : Fr h₀ L s.heap m) (X₀ : (Mine.hd.heap_39 w.params).In h₀) (T : Top p loose mean mg mb h₀)
    (N : News h₀ L s.heap news) (hm : ∀ a ∈ D.adr, ∃ o, (a, o) ∈ news)
    (hA : A.frames = some (env :: outer)) (hf : env.frame = some L) (hke : env.scope.kind = .function) (hroom : A.depth < recursionLimit) (hh : A.handled = none) (hk : k ∉ keysOf ρ)
    (h : ∀ e h' tk g, Fr h₀ L g m → g.UpToSlots h' → RaisedN base (env :: outer) e (.type "KeyError") news h' → E (.ref e) { s with heap := h', toks := tk })
    (hsl : subscripted slice true (.ref D.kx) (.int k kt) = runValue (.builtin "lifetime.subscript" ⟨[.ref D.kx, .int k kt], []⟩) := by with_unfolding_all rfl) :
    wpAny (model PySem.Challenge.rw_fh5009_01.row.prog w) A (subscriptTail value slice (.ref D.kx) (.int k kt)) Q E s := by
  have off : Off h₀ L D.adr := fun a ha => by obtain ⟨o, ho⟩ := hm a ha; exact (N _ ho).2
  have X₁ := X₀
  have N₁ := N
  clear N
  obtain ⟨tn, oc, ou, ck, uk, N, _⟩ := CA.news off
  revert X₀; k_fill; intro X₀
  refine' sub_K (f := 43) ?k1 ?k2 ?k3 ?k4 ?k5 ?k6 ?_ hsl
  case k1 => k_asm
  case k2 => k_asm
  case k3 => k_inst
  case k4 => k_is
  case k5 => k_is
  case k6 => k_is
  exact keep_get_miss CA hok B F X₁ T N₁ hm (by exact hA) hf hke (by exact hroom) (by exact hh) hk h

theorem keep_delItem {Q : Unit → Shared → Prop} (CA : CacheAt w s.heap D ρ) (hok : D.Ok) (off : Off h₀ L D.adr) (B : Below A₀ base outer h₀) (F : Fr h₀ L s.heap m) (X₀ : (Mine.hd.heap_39 w.params).In h₀) (T : Top p loose mean mg mb h₀)
    (hA : A.frames = some (env :: outer)) (hf : env.frame = some L) (hke : env.scope.kind = .function) (hroom : A.depth < recursionLimit) (hr : k ∈ keysOf ρ) (hsz : ρ.length ≤ 1000)
    (h : ∀ h' tk, CacheAt w h' D (drop k ρ) → ButA D.adr s.heap h' → Q () { s with heap := h', toks := tk }) :
    wpAny (model PySem.Challenge.rw_fh5009_01.row.prog w) A (delItem (.ref D.kx) (.int k kt)) Q E s := by
  obtain ⟨tn, oc, ou, ck, uk, N, _⟩ := CA.news off
  have X₁ := X₀
  revert X₀; k_fill; intro X₀
  refine' inst_delItem (f := 64) ?k1 ?k2 ?k3 ?k4 ?k5 ?k6 ?_
  case k1 => k_asm
  case k2 => k_asm
  case k3 => k_inst
  case k4 => k_is
  case k5 => k_is
  case k6 => k_is
  exact keep_del CA hok off B F X₁ T hA hf hke hroom hr hsz h

theorem keep_delItem_miss {Q : Unit → Shared → Prop} (CA : CacheAt w s.heap D ρ) (hok : D.Ok) (B : Below A₀ base outer h₀) (F : Fr h₀ L s.heap m) (X₀ : (Mine.hd.heap_39 w.params).In h₀) (T : Top p loose mean mg mb h₀)
    (N : News h₀ L s.heap news) (hm : ∀ a ∈ D.adr, ∃ o, (a, o) ∈ news)
    (hA : A.frames = some (env :: outer)) (hf : env.frame = some L) (hke : env.scope.kind = .function) (hroom : A.depth < recursionLimit) (hh : A.handled = none) (hk : k ∉ keysOf ρ)
    (h : ∀ e h' tk g, Fr h₀ L g m → g.UpToSlots h' → RaisedN base (env :: outer) e (.type "KeyError") news h' → E (.ref e) { s with heap := h', toks := tk }) :
    wpAny (model PySem.Challenge.rw_fh5009_01.row.prog w) A (delItem (.ref D.kx) (.int k kt)) Q E s := by
  have off : Off h₀ L D.adr := fun a ha => by obtain ⟨o, ho⟩ := hm a ha; exact (N _ ho).2
  have X₁ := X₀
  have N₁ := N
  clear N
  obtain ⟨tn, oc, ou, ck, uk, N, _⟩ := CA.news off
  revert X₀; k_fill; intro X₀
  refine' inst_delItem (f := 64) ?k1 ?k2 ?k3 ?k4 ?k5 ?k6 ?_
  case k1 => k_asm
  case k2 => k_asm
  case k3 => k_inst
  case k4 => k_is
  case k5 => k_is
  case k6 => k_is
  exact keep_del_miss CA hok B F X₁ T N₁ hm hA hf hke hroom hh hk h
end
end Mine

-- FhRows
theorem Mine.anewFhRows : True := by (w_top off); exact trivial
namespace Mine
open PySem PySem.W PyProof.Rows PySem.Calls

theorem where_spec {k : Int} {ρ : List Row} (h : k ∈ keysOf ρ) : ∃ (i : Nat) (r : Row) (rest : List Nat), places (·.1) k ρ = i :: rest ∧ ρ[i]? = some r ∧ r.1 = k := by
  obtain ⟨r, hr, e⟩ := List.mem_map.mp h
  obtain ⟨rest, hp⟩ := places_first (fld := fun r : Row => r.1) (m := k) (ρ := ρ) ⟨r, hr, e⟩
  have hlt : (ρ.findIdx fun r => decide (r.1 = k)) < ρ.length := List.findIdx_lt_length_of_exists ⟨r, hr, by simpa using e⟩
  refine ⟨_, ρ[ρ.findIdx fun r => decide (r.1 = k)], rest, hp, List.getElem?_eq_getElem hlt, ?_⟩
  have := List.findIdx_getElem (w := hlt)
  simpa using this
theorem where_nil {k : Int} {ρ : List Row} (h : k ∉ keysOf ρ) : places (·.1) k ρ = [] :=
  places_none fun ⟨r, hr, e⟩ => h (List.mem_map.mpr ⟨r, hr, e⟩)

theorem map_at {k : Int} {f : Row → Row} : ∀ {ρ : List Row} {i : Nat} {r : Row}, (keysOf ρ).Nodup → ρ[i]? = some r → r.1 = k → (ρ.map fun q => if q.1 = k then f q else q) = ρ.set i (f r)
  | [], _, _, _, h, _ => by cases h
  | q :: ρ, 0, r, nd, h, e => by
    cases h
    have nq : ∀ x ∈ ρ, x.1 ≠ k := fun x hx ex => (List.nodup_cons.mp nd).1 (List.mem_map.mpr ⟨x, hx, ex.trans e.symm⟩)
    show (if q.1 = k then f q else q) :: _ = f q :: ρ
    rw [if_pos e]
    congr 1
    have : ρ.map (fun q => if q.1 = k then f q else q) = ρ.map id := List.map_congr_left fun x hx => if_neg (nq x hx)
    rw [this, List.map_id]
  | q :: ρ, i + 1, r, nd, h, e => by
    have hr : r ∈ ρ := List.mem_of_getElem? (show ρ[i]? = some r from h)
    have nq : q.1 ≠ k := fun eq => (List.nodup_cons.mp nd).1 (List.mem_map.mpr ⟨r, hr, e.trans eq.symm⟩)
    show (if q.1 = k then f q else q) :: _ = q :: ρ.set i (f r)
    rw [if_neg nq]
    congr 1
    exact map_at (List.nodup_cons.mp nd).2 h e

theorem put_at {k v : Int} {ρ : List Row} {i : Nat} {r : Row} (nd : (keysOf ρ).Nodup) (h : ρ[i]? = some r) (e : r.1 = k) : put k v ρ = ρ.set i (k, v, r.2.2) := by
  unfold put
  have hm : k ∈ keysOf ρ := List.mem_map.mpr ⟨r, List.mem_of_getElem? h, e⟩
  rw [if_pos hm, map_at nd h e, ← e]
theorem bump_at {k : Int} {ρ : List Row} {i : Nat} {r : Row} (nd : (keysOf ρ).Nodup) (h : ρ[i]? = some r) (e : r.1 = k) : bump k ρ = ρ.set i (k, r.2.1, r.2.2 + 1) := by
  unfold bump
  rw [map_at nd h e, ← e]
theorem put_new {k v : Int} {ρ : List Row} (h : k ∉ keysOf ρ) : put k v ρ = ρ ++ [(k, v, 0)] := if_neg h

theorem PlainAt.append {h h' : Heap} {P a : Addr} {as : List Addr} {ρ : List Row} {r : Row} (HP : PlainAt h P as ρ) (hl : h'.PlainList P ((as.map Value.ref).toArray.push (.ref a))) (hk : ∀ b ∈ as, ∀ o, h.get? b = some o → h'.get? b = some o)
    (hr : RowAt h' a r) (ha : a ∉ P :: as) : PlainAt h' P (as ++ [a]) (ρ ++ [r]) := by
  refine ⟨?_, by simp [HP.len], fun i b q hb hq => ?_, ?_, fun q => ?_⟩
  · have e : (as.map Value.ref).toArray.push (.ref a) = ((as ++ [a]).map Value.ref).toArray := by simp
    rw [← e]; exact hl
  · by_cases hi : i < as.length
    · rw [List.getElem?_append_left hi] at hb
      rw [List.getElem?_append_left (by rw [← HP.len]; exact hi)] at hq
      obtain ⟨t1, t2, t3, e⟩ := HP.rows i b q hb hq
      exact ⟨t1, t2, t3, e.at fun o e => hk b (List.mem_of_getElem? hb) o e⟩
    · rw [List.getElem?_append_right (by omega)] at hb
      rw [List.getElem?_append_right (by rw [← HP.len]; omega)] at hq
      have hz : i - as.length = 0 := by
        have := (List.getElem?_eq_some_iff.mp hb).1
        simp at this; omega
      rw [hz] at hb
      rw [← HP.len, hz] at hq
      cases hb; cases hq
      exact hr
  · rw [List.nodup_append]
    refine ⟨HP.nodup, List.nodup_cons.mpr ⟨(fun q => nomatch q), List.nodup_nil⟩, fun x hx y hy e => ha ?_⟩
    rw [List.mem_singleton.mp hy] at e
    rw [← e]; exact .tail _ hx
  · rcases List.mem_append.mp q with q | q
    · exact HP.off q
    · exact ha (by rw [List.mem_singleton.mp q]; exact .head _)

theorem PlainAt.setrow {h h' : Heap} {P a : Addr} {as : List Addr} {ρ : List Row} {r : Row} {i : Nat} (HP : PlainAt h P as ρ) (hs : Heap.SameBut a h h') (ha : as[i]? = some a) (hr : RowAt h' a r) : PlainAt h' P as (ρ.set i r) := by
  have hne : ∀ (j : Nat) b, as[j]? = some b → j ≠ i → b ≠ a := fun j b hb hj e => by
    subst e
    have h1 := idxOf_nodupA HP.nodup hb
    have h2 := idxOf_nodupA HP.nodup ha
    exact hj (h1.symm.trans h2)
  refine ⟨HP.list.extBut hs.extBut fun q => HP.off (q ▸ List.mem_of_getElem? ha), by rw [List.length_set]; exact HP.len, fun j b q hb hq => ?_, HP.nodup, HP.off⟩
  rw [List.getElem?_set] at hq
  by_cases hj : i = j
  · subst hj
    rw [if_pos rfl] at hq
    by_cases hl : i < ρ.length
    · rw [if_pos hl] at hq; cases hq
      rw [ha] at hb; cases hb
      exact hr
    · rw [if_neg hl] at hq; cases hq
  · rw [if_neg hj] at hq
    obtain ⟨t1, t2, t3, e⟩ := HP.rows j b q hb hq
    exact ⟨t1, t2, t3, e.extBut hs.extBut (hne j b hb (Ne.symm hj))⟩

theorem PlainAt.row_at {h : Heap} {P : Addr} {as : List Addr} {ρ : List Row} {i : Nat} {r : Row} (HP : PlainAt h P as ρ) (hr : ρ[i]? = some r) : ∃ a, as[i]? = some a ∧ RowAt h a r := by
  have hi : i < as.length := by rw [HP.len]; exact (List.getElem?_eq_some_iff.mp hr).1
  exact ⟨_, List.getElem?_eq_getElem hi, HP.rows i _ r (List.getElem?_eq_getElem hi) hr⟩

theorem roomed_props {D : KD} {ρ : List Row} (nd : (keysOf ρ).Nodup) (bd : Bnd D ρ) (h1 : 1 ≤ D.chop) (h2 : D.chop ≤ D.size) :
    (keysOf (roomed D ρ)).Nodup ∧ ((roomed D ρ).length : Int) < D.size ∧ (∀ k ∈ keysOf (roomed D ρ), k ∈ keysOf ρ) ∧ (roomed D ρ).length ≤ ρ.length := by
  unfold roomed
  by_cases hf : D.size ≤ (ρ.length : Int)
  · rw [if_pos hf]
    obtain ⟨a, b, c⟩ := evictN_props D.chop.toNat nd (by omega)
    have := bd.1
    exact ⟨a, by omega, c, by omega⟩
  · rw [if_neg hf]
    exact ⟨nd, by omega, fun _ h => h, Nat.le_refl _⟩
theorem bnd_put {D : KD} {ρ : List Row} {k v : Int} (hl : (ρ.length : Int) < D.size) (hk : ∀ k ∈ keysOf ρ, 0 ≤ k ∧ k < D.size + 3) (k0 : 0 ≤ k) (k1 : k < D.size + 3) : Bnd D (put k v ρ) := by
  by_cases h : k ∈ keysOf ρ
  · refine ⟨by rw [length_put_old h]; omega, fun x hx => ?_⟩
    rw [keys_put, if_pos h] at hx
    exact hk x hx
  · refine ⟨by rw [length_put_new h]; omega, fun x hx => ?_⟩
    rw [keys_put, if_neg h] at hx
    rcases List.mem_append.mp hx with hx | hx
    · exact hk x hx
    · rw [List.mem_singleton.mp hx]; exact ⟨k0, k1⟩
theorem bnd_bump {D : KD} {ρ : List Row} {k : Int} (b : Bnd D ρ) : Bnd D (bump k ρ) := ⟨by rw [length_bump]; exact b.1, by rw [keys_bump]; exact b.2⟩
theorem bnd_drop {D : KD} {ρ : List Row} {k : Int} (b : Bnd D ρ) : Bnd D (drop k ρ) := by
  refine ⟨?_, fun x hx => ?_⟩
  · have : (drop k ρ).length ≤ ρ.length := List.length_filter_le _ _
    have := b.1
    omega
  · rw [keys_drop] at hx
    exact b.2 x (List.mem_filter.mp hx).1
end Mine

-- FhPut
theorem Mine.anewFhPut : True := by (w_top off); exact trivial
namespace Mine
open PySem PySem.W PyProof.Rows PySem.Calls
local macro_rules | `(tactic| walk_at "MINE step") => `(tactic| first | (k_unfold; (try dsimp only)) | (k_end; wrow_close) | walk1 | (dsimp only; walk1) | (leave1; walk_say "STEP leave1"; try dsimp only) | fail "no step")
local macro_rules | `(tactic| k_all) => `(tactic| assumption)

def ifBody : Stmt → List Stmt
  | .If _ b _ _ => b
  | _ => []
def ifElse : Stmt → List Stmt
  | .If _ _ b _ => b
  | _ => []
def ifDef : Stmt := nth (forBody (nth (fnBody lawDef) 6)) 3

theorem chainL (m : Str → Option Value) : ∀ (l : List (Str × Option Value)), (∀ p ∈ l, m p.1 = p.2) → m = l.foldr (fun p f y => if y = p.1 then p.2 else f y) m
  | [], _ => rfl
  | p :: l, h => by
    have ih := chainL m l fun q hq => h q (.tail _ hq)
    funext y
    show m y = if y = p.1 then p.2 else l.foldr (fun p f y => if y = p.1 then p.2 else f y) m y
    by_cases e : y = p.1
    · rw [if_pos e, e]; exact h p (.head _)
    · rw [if_neg e, ← ih]

/-- the locals a branch needs -/
structure LK (D : KD) (fD fW fE : Addr) (key more : Int) (m : Str → Option Value) : Prop where
  lm : LM D fD fW fE m
  key : ∃ t, m (Str.ofString "key") = some (.int key t)
  more : ∃ t, m (Str.ofString "more") = some (.int more t)

theorem LK.chain {D : KD} {fD fW fE : Addr} {key more : Int} {m : Str → Option Value} (x : LK D fD fW fE key more m) : ∃ t1 t2 t3, m = fun y => if y = Str.ofString "size" then some (.int D.size t1) else if y = Str.ofString "draw" then some (.ref fD) else
    if y = Str.ofString "where" then some (.ref fW) else if y = Str.ofString "evict" then some (.ref fE) else if y = Str.ofString "key" then some (.int key t2) else if y = Str.ofString "more" then some (.int more t3) else m y := by
  obtain ⟨t1, e1⟩ := x.lm.size
  obtain ⟨t2, e2⟩ := x.key
  obtain ⟨t3, e3⟩ := x.more
  exact ⟨t1, t2, t3, chainL m [(Str.ofString "size", some (.int D.size t1)), (Str.ofString "draw", some (.ref fD)), (Str.ofString "where", some (.ref fW)), (Str.ofString "evict", some (.ref fE)), (Str.ofString "key", some (.int key t2)), (Str.ofString "more", some (.int more t3))] fun p hp => by
    simp only [List.mem_cons, List.not_mem_nil, or_false] at hp
    rcases hp with rfl | rfl | rfl | rfl | rfl | rfl
    · exact e1
    · exact x.lm.draw
    · exact x.lm.whr
    · exact x.lm.evict
    · exact e2
    · exact e3⟩

section
variable {prog : Program} {w : World} {A : Around} {s : Shared} {E : Value → Shared → Prop}
theorem places_nil {key : Int} {ρ : List Row} : decide ((places (·.1) key ρ).map Int.ofNat = []) = decide (key ∉ keysOf ρ) := by
  by_cases h : key ∈ keysOf ρ
  · obtain ⟨i, r, rest, e, _⟩ := where_spec h
    rw [e]
    simp [h]
  · rw [where_nil h]
    simp [h]
theorem nil_eq {W : Addr} {ys : Array Value} {key : Int} {ρ : List Row} {Q : Value → Shared → Prop} (hl : s.heap.PlainList W ys) (hi : IntsAre ys.toList ((places (·.1) key ρ).map Int.ofNat)) (hu : A.units + 64 < cLine)
    (h : ∀ h', Old s.heap h' → Q (.bool (decide (key ∉ keysOf ρ))) { s with heap := h' }) :
    wpAny (model prog w) A (newList []) (fun b s₂ => wpAny (model prog w) A (compareOp .Eq (.ref W) b) Q E s₂) E s := by
  refine wpAny_newList ?_
  have old := Old.push s.heap { cls := .type "list", data := .seq ([] : List Value).toArray }
  refine' ke_eq_ints (xs := ys.toList) (ys := []) (ms := []) ?a1 ?a2 hi .nil hu ?a3
  case a1 => simpa using hl.isList.at fun o e => old _ _ e
  case a2 => exact ⟨_, Heap.get?_push_size _ rfl, rfl, _, rfl⟩
  rw [places_nil]
  exact h _ old
theorem nil_ne {W : Addr} {ys : Array Value} {key : Int} {ρ : List Row} {Q : Value → Shared → Prop} (hl : s.heap.PlainList W ys) (hi : IntsAre ys.toList ((places (·.1) key ρ).map Int.ofNat)) (hu : A.units + 64 < cLine)
    (h : ∀ h', Old s.heap h' → Q (.bool (decide (key ∈ keysOf ρ))) { s with heap := h' }) :
    wpAny (model prog w) A (newList []) (fun b s₂ => wpAny (model prog w) A (compareOp .NotEq (.ref W) b) Q E s₂) E s := by
  refine wpAny_newList ?_
  have old := Old.push s.heap { cls := .type "list", data := .seq ([] : List Value).toArray }
  refine' ke_ne_ints (xs := ys.toList) (ys := []) (ms := []) ?a1 ?a2 hi .nil hu ?a3
  case a1 => simpa using hl.isList.at fun o e => old _ _ e
  case a2 => exact ⟨_, Heap.get?_push_size _ rfl, rfl, _, rfl⟩
  rw [places_nil, show (!decide (key ∉ keysOf ρ)) = decide (key ∈ keysOf ρ) by by_cases hk : key ∈ keysOf ρ <;> simp [hk]]
  exact h _ old
end

section
variable {w : World} {s : Shared} {h₀ : Heap} {L : Addr} {m mg mb : Str → Option Value} {loose : List Str} {mean : ExcName → Option Value} {p : Program}
  {ρ ρc : List Row} {as : List Addr} {P fD fW fE l fa : Addr} {cl : List (Str × Addr)} {consts : List (Addr × Obj)} {D : KD} {vs : List Value} {ns : List Int} {E : Value → Shared → Prop} {qual : Str} {cdv : Value} {key more : Int}

/-- between statements of a branch -/
def BSt (w : World) (h₀ : Heap) (L : Addr) (consts : List (Addr × Obj)) (D : KD) (P fD fW fE : Addr) (key more : Int) (ρc ρp : List Row) (s s' : Shared) : Prop :=
  ∃ h' tk m' as', s' = { s with heap := h', toks := tk } ∧ Fr h₀ L h' m' ∧ LK D fD fW fE key more m' ∧ LawAt w h₀ L h' consts D P as' ρc ρp

theorem where0 {i : Nat} {rest : List Nat} {p1 p2 p3 p4 p5 : Pos} {Q : Value → Shared → Prop} (C : Ctx w callerA (callerA.deeper (lawEnv qual L fa cdv cl)) h₀ h₀ [] L mg mb loose mean p (lawEnv qual L fa cdv cl) cl consts D P fD fW fE l vs ns) (F : Fr h₀ L s.heap m) (lk : LK D fD fW fE key more m)
    (LA : LawAt w h₀ L s.heap consts D P as ρc ρ) (hsz : ρ.length ≤ 100) (hpl : places (·.1) key ρ = i :: rest)
    (h : ∀ h' tk t, Old s.heap h' → Q (.int (i : Int) t) { s with heap := h', toks := tk }) :
    wpAny (model PySem.Challenge.rw_fh5009_01.row.prog w) (callerA.deeper (lawEnv qual L fa cdv cl)) (eval (.Subscript (.Call (.Name (Str.ofString "where") p1) [.Name (Str.ofString "key") p2] [] p3) (.Constant (.int 0) 0 p4) p5) (lawEnv qual L fa cdv cl)) Q E s := by
  have Cx := C
  obtain ⟨B, X₀, T, hA, hroom, hh, hl, hi, hlen, ok, sz0, sz1, ch0, ch1, cS, ⟨cK, oK, hcK, hcKm, hcKd⟩, cP, oP, hcP, hcPm, hcPd, _⟩ := C
  unfold lawEnv at Cx ⊢
  obtain ⟨sc, es⟩ : ∃ b, b = fnScope lawDef := ⟨_, rfl⟩
  rw [← es] at Cx ⊢
  conv at es => rhs; whnf
  subst es
  revert X₀; k_fill; intro X₀
  obtain ⟨ts, tkey, tmore, em⟩ := lk.chain
  rw [em] at F
  obtain ⟨led, N, hu⟩ := univ h₀ s.heap L
  iterate 3 walk_at "MINE step"
  refine callWith_F (Cx.fnW LA.news) ?_
  iterate 3 walk_at "MINE step"
  refine ⟨Cx.fnW LA.news, ctx_where Cx rfl rfl F LA (by omega) ?_⟩
  intro W₁ h₁ tk₁ ys₁ hW₁ hl₁ hi₁ old₁
  rw [hpl] at hi₁
  obtain ⟨t₁, ht₁⟩ := ints_head hi₁
  iterate 1 walk_at "MINE step" -- CC
  refine tail_any hl₁.isList.typeIs slot_list_getitem.lookup (wpAny_getItem_list hl₁.isList (by decide) (by decide) ht₁ ?_) (by with_unfolding_all rfl)
  exact h h₁ _ t₁ old₁

theorem plainWhere0 {i : Nat} {rest : List Nat} {a : Addr} {p1 p2 p3 p4 p5 p6 p7 : Pos} {Q : Value → Shared → Prop} (C : Ctx w callerA (callerA.deeper (lawEnv qual L fa cdv cl)) h₀ h₀ [] L mg mb loose mean p (lawEnv qual L fa cdv cl) cl consts D P fD fW fE l vs ns) (F : Fr h₀ L s.heap m) (lk : LK D fD fW fE key more m)
    (LA : LawAt w h₀ L s.heap consts D P as ρc ρ) (hsz : ρ.length ≤ 100) (hpl : places (·.1) key ρ = i :: rest) (ha : as[i]? = some a)
    (h : ∀ h' tk, Old s.heap h' → Q (.ref a) { s with heap := h', toks := tk }) :
    wpAny (model PySem.Challenge.rw_fh5009_01.row.prog w) (callerA.deeper (lawEnv qual L fa cdv cl)) (eval (.Subscript (.Name (Str.ofString "plain") p6) (.Subscript (.Call (.Name (Str.ofString "where") p1) [.Name (Str.ofString "key") p2] [] p3) (.Constant (.int 0) 0 p4) p5) p7) (lawEnv qual L fa cdv cl)) Q E s := by
  have Cx := C
  obtain ⟨B, X₀, T, hA, hroom, hh, hl, hi, hlen, ok, sz0, sz1, ch0, ch1, cS, ⟨cK, oK, hcK, hcKm, hcKd⟩, cP, oP, hcP, hcPm, hcPd, _⟩ := C
  have w0 := fun Q' h' => where0 (E := E) (p1 := p1) (p2 := p2) (p3 := p3) (p4 := p4) (p5 := p5) (Q := Q') Cx F lk LA hsz hpl h'
  unfold lawEnv at Cx w0 ⊢
  obtain ⟨sc, es⟩ : ∃ b, b = fnScope lawDef := ⟨_, rfl⟩
  rw [← es] at Cx w0 ⊢
  conv at es => rhs; whnf
  subst es
  revert X₀; k_fill; intro X₀
  have N := LA.news
  iterate 1 walk_at "MINE step"
  refine nameX_C N hcP hcPm hcPd ?_ rfl (by kernel_rfl) (by kernel_rfl)
  refine w0 _ ?_
  intro h₁ tk₁ t₁ old₁
  have hil : i < as.length := (List.getElem?_eq_some_iff.mp ha).1
  have HP₁ := LA.plain.old old₁
  have hal : as.length ≤ 100 := by rw [LA.plain.len]; exact hsz
  refine' item_list (items := (as.map Value.ref).toArray) (k := (i : Int)) (x := .ref a) ?j1 (by omega) (by omega) ?j2 ?j3
  case j1 => exact HP₁.list.isList
  case j2 => simp [ha]
  exact h h₁ tk₁ old₁


theorem putP2 (C : Ctx w callerA (callerA.deeper (lawEnv qual L fa cdv cl)) h₀ h₀ [] L mg mb loose mean p (lawEnv qual L fa cdv cl) cl consts D P fD fW fE l vs ns) (F : Fr h₀ L s.heap m) (lk : LK D fD fW fE key more m)
    (LA : LawAt w h₀ L s.heap consts D P as ρc ρ) (nd : (keysOf ρ).Nodup) (hsz : ρ.length ≤ 100) :
    wpAny (model PySem.Challenge.rw_fh5009_01.row.prog w) (callerA.deeper (lawEnv qual L fa cdv cl)) (exec (nth (ifBody ifDef) 1) (lawEnv qual L fa cdv cl)) (fun f s' => f = .next ∧ BSt w h₀ L consts D P fD fW fE key more ρc (put key more ρ) s s') E s := by
  have Cx := C
  obtain ⟨B, X₀, T, hA, hroom, hh, hl, hi, hlen, ok, sz0, sz1, ch0, ch1, cS, ⟨cK, oK, hcK, hcKm, hcKd⟩, cP, oP, hcP, hcPm, hcPd, _⟩ := C
  obtain ⟨b, eb⟩ : ∃ b, b = nth (ifBody ifDef) 1 := ⟨_, rfl⟩
  rw [← eb]
  conv at eb => rhs; whnf
  subst eb
  unfold lawEnv at Cx ⊢
  obtain ⟨sc, es⟩ : ∃ b, b = fnScope lawDef := ⟨_, rfl⟩
  rw [← es] at Cx ⊢
  conv at es => rhs; whnf
  subst es
  revert X₀; k_fill; intro X₀
  obtain ⟨ts, tkey, tmore, em⟩ := lk.chain
  rw [em] at F
  obtain ⟨led, N, hu⟩ := univ h₀ s.heap L
  iterate 4 walk_at "MINE step"
  refine callWith_F (Cx.fnW LA.news) ?_
  iterate 3 walk_at "MINE step"
  refine ⟨Cx.fnW LA.news, ctx_where Cx rfl rfl F LA (by omega) ?_⟩
  intro W₁ h₁ tk₁ ys₁ hW₁ hl₁ hi₁ old₁
  have F₁ := F.keeps old₁
  have LA₁ := LA.butL (Old.butL old₁)
  iterate 2 walk_at "MINE step"
  refine nil_eq (s := { s with heap := h₁, toks := tk₁ }) hl₁ hi₁ (by simp only [units_deeper, units_caller]; decide) ?_
  intro h₂ old₂
  have F₂ := F₁.keeps old₂
  have LA₂ := LA₁.butL (Old.butL old₂)
  clear F F₁ N hu LA LA₁ hi₁ hl₁
  refine wpAny_truthy_bool ?_
  by_cases hk : key ∈ keysOf ρ
  · rw [show decide (key ∉ keysOf ρ) = false by simpa using hk]
    obtain ⟨i, r, rest, hpl, hri, hrk⟩ := where_spec hk
    iterate 4 walk_at "MINE step"
    obtain ⟨a, ha, hrow⟩ := LA₂.plain.row_at hri
    refine plainWhere0 (s := { s with heap := h₂, toks := _ }) Cx F₂ ⟨⟨⟨_, rfl⟩, rfl, rfl, rfl⟩, ⟨_, rfl⟩, ⟨_, rfl⟩⟩ LA₂ hsz hpl ha ?_
    intro h₃ tk₃ old₃
    have F₃ := F₂.keeps old₃
    have LA₃ := LA₂.butL (Old.butL old₃)
    have hrow₃ := hrow.old old₃
    clear F₂ LA₂ hrow
    obtain ⟨led, N, hu⟩ := univ h₀ h₃ L
    have hF3 : ∃ m, Fr h₀ L h₃ m := ⟨_, F₃⟩
    iterate 6 walk_at "MINE step"
    rename Fr _ _ _ _ => F₄
    rename News _ _ _ _ => N₄
    obtain ⟨_, F₃'⟩ := hF3
    have LA₄ := LA₃.butL (butL_of F₃' F₄ hu N₄ (fun q hq => by simp [hq]))
    obtain ⟨a', ha', t1, t2, t3, hrow₄⟩ := LA₄.plain.row_at hri
    cases ha.symm.trans ha'
    refine' wpAny_setItem_list (items := #[.int r.1 t1, .int r.2.1 t2, .int r.2.2 t3]) ?s1 (by decide) (by decide) (by show (1 : Int) < 3; decide) ?s2
    case s1 => exact hrow₄
    intro h₅ hl₅ hs₅
    have hrow₅ : RowAt h₅ a (key, more, r.2.2) := ⟨t1, _, t3, by rw [← hrk]; exact hl₅⟩
    have HP₅ := LA₄.plain.setrow hs₅ ha hrow₅
    rw [← put_at nd hri hrk] at HP₅
    have bA : ButA (P :: as) _ h₅ := fun b o hb e => hs₅.extBut b o (fun q => hb (q ▸ .tail _ (List.mem_of_getElem? ha))) e
    have LA₅ := LA₄.plainOp F₄ bA HP₅ fun a h => .inl h
    have F₅ := fr_butA F₄ LA₄.offP bA
    clear LA₄ F₄ N₄ LA₃ hu F₃'
    dsimp only
    iterate 1 walk_at "MINE step"
    exact ⟨rfl, h₅, _, _, as, rfl, F₅, ⟨⟨⟨_, rfl⟩, rfl, rfl, rfl⟩, ⟨_, rfl⟩, ⟨_, rfl⟩⟩, LA₅⟩
  · rw [show decide (key ∉ keysOf ρ) = true by simpa using hk]
    iterate 4 walk_at "MINE step"
    have N := LA₂.news
    iterate 1 walk_at "MINE step"
    refine nameX_C N hcP hcPm hcPd ?_ rfl (by kernel_rfl) (by kernel_rfl)
    refine getMethod_list LA₂.plain.list PySem.F.slot_list_append PySem.F.type_list_append ?_
    dsimp only
    iterate 10 walk_at "MINE step"
    refine wpAny_newList ?_
    dsimp only
    iterate 1 walk_at "MINE step"
    have hPlt : P < h₂.objs.size := LA₂.plain.lt _ (.head _)
    have hPa : P ≠ h₂.objs.size := Nat.ne_of_lt hPlt
    have hasz : (as.map Value.ref).toArray.size ≤ sizeLine := by
      have := LA₂.plain.len
      rw [sizeLine_eq]
      simp
      omega
    refine' wpAny_list_append_plain (items := (as.map Value.ref).toArray) (l := P) (hsz := hasz) ?b1 ?b2
    case b1 => exact LA₂.plain.list.at fun o e => Heap.get?_push_of_some _ e
    intro h₄ hl₄ hs₄
    have key₄ : ∀ b o, b ≠ P → h₂.get? b = some o → h₄.get? b = some o := fun b o hb e => hs₄.extBut b o hb (Heap.get?_push_of_some _ e)
    have hrow₄ : RowAt h₄ h₂.objs.size (key, more, 0) := ⟨_, _, _, _, hs₄.extBut _ _ (Ne.symm hPa) (Heap.get?_push_size _ rfl), rfl, _, rfl⟩
    have HP₄ := LA₂.plain.append hl₄ (fun b hb o e => key₄ b o (fun q => LA₂.plain.off (q ▸ hb)) e) hrow₄ fun q => Nat.lt_irrefl _ (LA₂.plain.lt _ q)
    rw [← put_new hk] at HP₄
    have bA : ButA (P :: as) h₂ h₄ := fun b o hb e => key₄ b o (fun q => hb (q ▸ .head _)) e
    have LA₄ := LA₂.plainOp F₂ bA HP₄ fun a ha => by
      rcases List.mem_append.mp ha with h | h
      · exact .inl h
      · exact .inr (by rw [List.mem_singleton.mp h]; exact get_none_of_ge (Nat.le_refl _))
    have F₄ := fr_butA F₂ LA₂.offP bA
    clear F₂ LA₂ N
    iterate 1 walk_at "MINE step"
    exact ⟨rfl, h₄, _, _, _, rfl, F₄, ⟨⟨⟨_, rfl⟩, rfl, rfl, rfl⟩, ⟨_, rfl⟩, ⟨_, rfl⟩⟩, LA₄⟩
end
end Mine

-- FhPutC
theorem Mine.anewFhPutC : True := by (w_top off); exact trivial
namespace Mine
open PySem PySem.W PyProof.Rows PySem.Calls
local macro_rules | `(tactic| walk_at "MINE step") => `(tactic| first | (k_unfold; (try dsimp only)) | (k_end; wrow_close) | walk1 | (dsimp only; walk1) | (leave1; walk_say "STEP leave1"; try dsimp only) | fail "no step")
local macro_rules | `(tactic| k_all) => `(tactic| assumption)

section
variable {w : World} {s : Shared} {h₀ : Heap} {L : Addr} {m mg mb : Str → Option Value} {loose : List Str} {mean : ExcName → Option Value} {p : Program}
  {ρ ρc : List Row} {as : List Addr} {P fD fW fE l fa : Addr} {cl : List (Str × Addr)} {consts : List (Addr × Obj)} {D : KD} {vs : List Value} {ns : List Int} {E : Value → Shared → Prop} {qual : Str} {cdv : Value} {key more : Int}

theorem putP1 (C : Ctx w callerA (callerA.deeper (lawEnv qual L fa cdv cl)) h₀ h₀ [] L mg mb loose mean p (lawEnv qual L fa cdv cl) cl consts D P fD fW fE l vs ns) (F : Fr h₀ L s.heap m) (lk : LK D fD fW fE key more m)
    (LA : LawAt w h₀ L s.heap consts D P as ρ ρ) (bd : Bnd D ρ) :
    wpAny (model PySem.Challenge.rw_fh5009_01.row.prog w) (callerA.deeper (lawEnv qual L fa cdv cl)) (exec (nth (ifBody ifDef) 0) (lawEnv qual L fa cdv cl)) (fun f s' => f = .next ∧ BSt w h₀ L consts D P fD fW fE key more ρ (roomed D ρ) s s') E s := by
  have Cx := C
  obtain ⟨B, X₀, T, hA, hroom, hh, hl, hi, hlen, ok, sz0, sz1, ch0, ch1, cS, ⟨cK, oK, hcK, hcKm, hcKd⟩, cP, oP, hcP, hcPm, hcPd, _⟩ := C
  obtain ⟨b, eb⟩ : ∃ b, b = nth (ifBody ifDef) 0 := ⟨_, rfl⟩
  rw [← eb]
  conv at eb => rhs; whnf
  subst eb
  unfold lawEnv at Cx ⊢
  obtain ⟨sc, es⟩ : ∃ b, b = fnScope lawDef := ⟨_, rfl⟩
  rw [← es] at Cx ⊢
  conv at es => rhs; whnf
  subst es
  revert X₀; k_fill; intro X₀
  obtain ⟨ts, tkey, tmore, em⟩ := lk.chain
  rw [em] at F
  have N := LA.news
  have hlen1 : (ρ.length : Int) ≤ 21 := by have := bd.1; omega
  iterate 6 walk_at "MINE step"
  refine nameX_C N hcP hcPm hcPd ?_ rfl (by kernel_rfl) (by kernel_rfl)
  iterate 1 walk_at "MINE step"
  have hpsz : ((as.map Value.ref).toArray.size : Int) = (ρ.length : Int) := by simp [LA.plain.len]
  refine' Calls.call_len_list (items := (as.map Value.ref).toArray) ?c1 ?c2 ?c3
  case c1 => exact LA.plain.list.isList
  case c2 => omega
  rw [hpsz]
  iterate 1 walk_at "MINE step"
  refine ge_int ?_
  refine wpAny_truthy_bool ?_
  by_cases hf : D.size ≤ (ρ.length : Int)
  · rw [show decide ((ρ.length : Int) ≥ D.size) = true by simpa using hf]
    iterate 6 walk_at "MINE step"
    refine callWith_F0 (Cx.fnE LA.news) ?_
    refine ctx_evict Cx rfl rfl F LA (by omega) LA.cache.nodup (by omega) ?_
    intro h₁ tk₁ as₁ LA₁ F₁
    have er : evictN D.chop.toNat ρ = roomed D ρ := by unfold roomed; rw [if_pos hf]
    rw [er] at LA₁
    clear F N LA
    iterate 1 walk_at "MINE step"
    exact ⟨rfl, h₁, _, _, as₁, rfl, F₁, ⟨⟨⟨_, rfl⟩, rfl, rfl, rfl⟩, ⟨_, rfl⟩, ⟨_, rfl⟩⟩, LA₁⟩
  · rw [show decide ((ρ.length : Int) ≥ D.size) = false by simpa using hf]
    iterate 2 walk_at "MINE step"
    have er : ρ = roomed D ρ := by unfold roomed; rw [if_neg hf]
    refine wpAny_execs_nil ⟨rfl, s.heap, _, _, as, rfl, F, ⟨⟨⟨_, rfl⟩, rfl, rfl, rfl⟩, ⟨_, rfl⟩, ⟨_, rfl⟩⟩, ?_⟩
    rw [← er]; exact LA

theorem putC (C : Ctx w callerA (callerA.deeper (lawEnv qual L fa cdv cl)) h₀ h₀ [] L mg mb loose mean p (lawEnv qual L fa cdv cl) cl consts D P fD fW fE l vs ns) (F : Fr h₀ L s.heap m) (lk : LK D fD fW fE key more m)
    (LA : LawAt w h₀ L s.heap consts D P as ρ ρ) (bd : Bnd D ρ) (k0 : 0 ≤ key) (k1 : key < D.size + 3) :
    wpAny (model PySem.Challenge.rw_fh5009_01.row.prog w) (callerA.deeper (lawEnv qual L fa cdv cl)) (execs (ifBody ifDef) (lawEnv qual L fa cdv cl)) (fun f s' => f = .next ∧ LSt w h₀ L consts D P fD fW fE s s') E s := by
  have Cx := C
  obtain ⟨B, X₀, T, hA, hroom, hh, hl, hi, hlen, ok, sz0, sz1, ch0, ch1, cS, ⟨cK, oK, hcK, hcKm, hcKd⟩, cP, oP, hcP, hcPm, hcPd, _⟩ := C
  obtain ⟨b, eb⟩ : ∃ b, b = ifBody ifDef := ⟨_, rfl⟩
  rw [← eb]
  conv at eb => rhs; whnf
  subst eb
  unfold lawEnv at Cx ⊢
  obtain ⟨sc, es⟩ : ∃ b, b = fnScope lawDef := ⟨_, rfl⟩
  rw [← es] at Cx ⊢
  conv at es => rhs; whnf
  subst es
  have X₁ := X₀
  revert X₀; k_fill; intro X₀
  obtain ⟨nd1, len1, sub1, le1⟩ := roomed_props LA.cache.nodup bd ch0 ch1
  iterate 1 walk_at "MINE step"
  refine wpAny_mono (putP1 Cx F lk LA bd) (fun f s' hf => ?_) fun _ _ e => e
  obtain ⟨rfl, h₁, tk₁, m₁, as₁, rfl, F₁, lk₁, LA₁⟩ := hf
  dsimp only
  iterate 1 walk_at "MINE step"
  refine wpAny_mono (putP2 (s := { s with heap := h₁, toks := tk₁ }) Cx F₁ lk₁ LA₁ nd1 (by omega)) (fun f s' hf => ?_) fun _ _ e => e
  obtain ⟨rfl, h₂, tk₂, m₂, as₂, rfl, F₂, lk₂, LA₂⟩ := hf
  dsimp only
  clear F F₁ lk lk₁ LA LA₁
  obtain ⟨ts, tkey, tmore, em⟩ := lk₂.chain
  rw [em] at F₂
  have N₂ := LA₂.news
  iterate 3 walk_at "MINE step"
  refine nameX_C N₂ hcK hcKm hcKd ?_ rfl (by kernel_rfl) (by kernel_rfl)
  iterate 1 walk_at "MINE step"
  have hlen1 : (ρ.length : Int) ≤ 21 := by have := bd.1; omega
  refine keep_setItem LA₂.cache ok LA₂.offD B F₂ X₁ T hA rfl rfl (Nat.lt_of_le_of_lt (Nat.le_add_right _ 3) hroom) (by omega) hh ch0 ch1 ?_
  intro h₃ tk₃ CA₃ bA₃
  have LA₃ := LA₂.cacheOp bA₃ CA₃
  have F₃ := fr_butA F₂ LA₂.offD bA₃
  clear F₂ LA₂ N₂
  dsimp only
  iterate 1 walk_at "MINE step"
  exact ⟨rfl, h₃, _, _, _, _, rfl, F₃, ⟨⟨_, rfl⟩, rfl, rfl, rfl⟩, LA₃, bnd_put len1 (fun k hk => bd.2 k (sub1 k hk)) k0 k1⟩
end
end Mine

-- FhGet
theorem Mine.anewFhGet : True := by (w_top off); exact trivial
namespace Mine
open PySem PySem.W PyProof.Rows PySem.Calls
local macro_rules | `(tactic| walk_at "MINE step") => `(tactic| first | (k_unfold; (try dsimp only)) | (k_end; wrow_close) | walk1 | (dsimp only; walk1) | (leave1; walk_say "STEP leave1"; try dsimp only) | fail "no step")
local macro_rules | `(tactic| k_all) => `(tactic| assumption)

theorem caughtX {prog : Program} {w : World} {A : Around} {s' : Shared} {h₀ g : Heap} {outer : List Env} {L e : Addr} {m : Str → Option Value} {env : Env} {x : Str} {b₀ : Stmt} {suite : List Stmt} {pos np : Pos} {rest : List ExceptHandler} {Q : Flow → Shared → Prop} {news : List (Addr × Obj)}
    (hA : A.frames = some (env :: outer)) (hf : env.frame = some L) (F : Fr h₀ L g m) (hsm : g.UpToSlots s'.heap) (R : RaisedN h₀ (env :: outer) e (.type "KeyError") news s'.heap)
    (hload : ∀ (s₁ : Shared) (E' : Value → Shared → Prop) (Q' : Value → Shared → Prop), Fr h₀ L s₁.heap m → Q' (.type "KeyError") s₁ → wpAny (model prog w) (A.mark (some (.ref e))) (eval (.Name x np) env) Q' E' s₁)
    (k : ∀ h', Fr h₀ L h' m → News h₀ L h' news → wpAny (model prog w) (A.mark (some (.ref e))) (execs (b₀ :: suite) env) Q (fun _ _ => False) { s' with heap := h' }) :
    wpAny (model prog w) A (noteFrame (.ref e) env) (fun _ s₂ => wpAny (model prog w) A (setFlight (.ref e) none) (fun _ s₃ =>
      wpAny (model prog w) A (handleBy (.ref e) env (.ExceptHandler (some (.Name x np)) none (b₀ :: suite) pos :: rest)) Q (fun _ _ => False) s₃) (fun _ _ => False) s₂) (fun _ _ => False) s' := by
  obtain ⟨B, a0, stays, kept, fl⟩ := R
  have noL : B.get? L = none := by
    obtain ⟨_, _, ⟨_, ⟨L₂, _, hf₂, fresh₂, _⟩, _⟩, _⟩ := fl
    rw [hf] at hf₂
    cases hf₂
    exact fresh₂
  refine wpAny_looks_onW hA hf fl fun h₁ held₁ up₁ => ?_
  refine wpAny_landsW held₁ fun h₂ fl₂ up₂ => ?_
  have upg₂ := hsm.trans (up₁.trans up₂)
  have fl₂' := flyingW_base stays fl₂
  have F₂ := F.of_stays fl₂'.1 upg₂
  obtain ⟨oe, eoe, coe⟩ := fl₂'.there
  refine wpAny_handleBy_builtin (X := "KeyError") (T := "KeyError") (b := true) kr_isExc_KeyError kr_notTuple_KeyError ?_ (hload _ _ _ F₂ ⟨rfl, ⟨oe, eoe, coe⟩, ?_⟩)
  · rw [isSubtype_type]; kernel_rfl
  · refine lands_againW fl₂ fun h₃ fl₃ up₃ => ?_
    have F₃ := F.of_stays (flyingW_base stays fl₃).1 (upg₂.trans up₃)
    refine wpAny_passesOwnAt .never (k h₃ F₃ fun q hq => ⟨fl₃.1 _ _ (kept q hq).1, fun z => ?_, (kept q hq).2⟩)
    have := (kept q hq).1
    rw [z, noL] at this
    cases this

section
variable {w : World} {s : Shared} {h₀ : Heap} {L : Addr} {m mg mb : Str → Option Value} {loose : List Str} {mean : ExcName → Option Value} {p : Program}
  {ρ ρc : List Row} {as : List Addr} {P fD fW fE l fa : Addr} {cl : List (Str × Addr)} {consts : List (Addr × Obj)} {D : KD} {vs : List Value} {ns : List Int} {qual : Str} {cdv : Value} {key more : Int}

/-- what told holds -/
def Told (key : Int) (ρ : List Row) (m : Str → Option Value) : Prop := (∀ v c, (key, v, c) ∈ ρ → ∃ t, m (Str.ofString "told") = some (.int v t)) ∧ (key ∉ keysOf ρ → m (Str.ofString "told") = some .none)

theorem getG1 (C : Ctx w callerA (callerA.deeper (lawEnv qual L fa cdv cl)) h₀ h₀ [] L mg mb loose mean p (lawEnv qual L fa cdv cl) cl consts D P fD fW fE l vs ns) (F : Fr h₀ L s.heap m) (lk : LK D fD fW fE key more m)
    (LA : LawAt w h₀ L s.heap consts D P as ρ ρ) (bd : Bnd D ρ) :
    wpAny (model PySem.Challenge.rw_fh5009_01.row.prog w) (callerA.deeper (lawEnv qual L fa cdv cl)) (exec (nth (ifBody (nth (ifElse ifDef) 0)) 0) (lawEnv qual L fa cdv cl))
      (fun f s' => f = .next ∧ ∃ h' tk m', s' = { s with heap := h', toks := tk } ∧ Fr h₀ L h' m' ∧ LK D fD fW fE key more m' ∧ Told key ρ m' ∧ LawAt w h₀ L h' consts D P as (bump key ρ) ρ) (fun _ _ => False) s := by
  have Cx := C
  obtain ⟨B, X₀, T, hA, hroom, hh, hl, hi, hlen, ok, sz0, sz1, ch0, ch1, cS, ⟨cK, oK, hcK, hcKm, hcKd⟩, cP, oP, hcP, hcPm, hcPd, _⟩ := C
  obtain ⟨b, eb⟩ : ∃ b, b = nth (ifBody (nth (ifElse ifDef) 0)) 0 := ⟨_, rfl⟩
  rw [← eb]
  conv at eb => rhs; whnf
  subst eb
  unfold lawEnv at Cx ⊢
  obtain ⟨sc, es⟩ : ∃ b, b = fnScope lawDef := ⟨_, rfl⟩
  rw [← es] at Cx ⊢
  conv at es => rhs; whnf
  subst es
  have X₁ := X₀
  revert X₀; k_fill; intro X₀
  obtain ⟨ts, tkey, tmore, em⟩ := lk.chain
  rw [em] at F
  have hlen1 : (ρ.length : Int) ≤ 21 := by have := bd.1; omega
  have N := LA.news
  refine wpAny_Try_except ?_
  iterate 3 walk_at "MINE step"
  refine nameX_C N hcK hcKm hcKd ?_ rfl (by kernel_rfl) (by kernel_rfl)
  iterate 1 walk_at "MINE step"
  by_cases hk : key ∈ keysOf ρ
  · obtain ⟨⟨k', v, c⟩, hr, ek⟩ := row_of hk
    dsimp only at ek
    subst ek
    refine keep_sub LA.cache ok LA.offD B F X₁ T hA rfl rfl (Nat.lt_of_le_of_lt (Nat.le_add_right _ 3) hroom) hr (by omega) ?_
    intro h₁ tk₁ t₁ CA₁ bA₁
    have LA₁ := LA.cacheOp bA₁ CA₁
    have F₁ := fr_butA F LA.offD bA₁
    have hex : ∃ m, Fr h₀ L h₁ m := ⟨_, F₁⟩
    have hnd := LA.cache.nodup
    clear F N LA CA₁
    obtain ⟨led, N, hu⟩ := univ h₀ h₁ L
    iterate 2 walk_at "MINE step"
    rename Fr _ _ _ _ => F₂
    rename News _ _ _ _ => N₂
    obtain ⟨_, Fo⟩ := hex
    have LA₂ := LA₁.butL (butL_of Fo F₂ hu N₂ (fun q hq => by simp [hq]))
    dsimp only
    refine wpAny_execs_nil ⟨rfl, _, _, _, rfl, F₂, ⟨⟨⟨_, rfl⟩, rfl, rfl, rfl⟩, ⟨_, rfl⟩, ⟨_, rfl⟩⟩, ⟨fun v' c' h' => ⟨t₁, ?_⟩, fun hn => absurd hk hn⟩, LA₂⟩
    have := row_unique hnd hr h' rfl
    cases this
    rfl
  · obtain ⟨led, Nl, hu⟩ := univ h₀ s.heap L
    have hm : ∀ a ∈ D.adr, ∃ o, (a, o) ∈ led := fun a ha => by
      obtain ⟨o, e⟩ : ∃ o, s.heap.get? a = some o := by
        obtain ⟨_, e⟩ := LA.cache.dict
        obtain ⟨_, _, e1, _⟩ := LA.cache.cache
        obtain ⟨_, _, e2, _⟩ := LA.cache.usage
        simp only [KD.adr, List.mem_cons, List.not_mem_nil, or_false] at ha
        rcases ha with rfl | rfl | rfl | rfl
        · exact ⟨_, LA.cache.inst⟩
        · exact ⟨_, e⟩
        · exact ⟨_, e1⟩
        · exact ⟨_, e2⟩
      exact ⟨o, hu a o e (LA.offD a ha).1 (LA.offD a ha).2⟩
    refine keep_sub_miss LA.cache ok B F X₁ T Nl hm hA rfl rfl (Nat.lt_of_le_of_lt (Nat.le_add_right _ 3) hroom) hh hk ?_
    intro e h₁ tk₁ g Fg up R
    refine caughtX hA rfl Fg up R ?_ ?_
    · intro s₁ E' Q' F1 hq
      clear F N Nl Fg
      iterate 1 walk_at "MINE step"
      exact hq
    · intro h₂ F₂ N₂
      have hF0 : ∃ m, Fr h₀ L s.heap m := ⟨_, F⟩
      clear F N Nl Fg
      iterate 4 walk_at "MINE step"
      rename Fr _ _ _ _ => F₃
      rename News _ _ _ _ => N₃
      obtain ⟨_, Fo⟩ := hF0
      have LA₃ := LA.butL (butL_of Fo F₃ hu N₃ (fun q hq => by simp [hq]))
      have eb : bump key ρ = ρ := by
        unfold bump
        have : ρ.map (fun r => if r.1 = key then (r.1, r.2.1, r.2.2 + 1) else r) = ρ.map id := List.map_congr_left fun x hx => if_neg fun q => hk (List.mem_map.mpr ⟨x, hx, q⟩)
        rw [this, List.map_id]
      dsimp only
      refine wpAny_execs_nil ⟨rfl, _, _, _, rfl, F₃, ⟨⟨⟨_, rfl⟩, rfl, rfl, rfl⟩, ⟨_, rfl⟩, ⟨_, rfl⟩⟩, ⟨fun v' c' h' => absurd (List.mem_map.mpr ⟨_, h', rfl⟩) hk, fun _ => rfl⟩, ?_⟩
      rw [eb]; exact LA₃
end
end Mine

-- FhGet2
theorem Mine.anewFhGet2 : True := by (w_top off); exact trivial
namespace Mine
open PySem PySem.W PyProof.Rows PySem.Calls
local macro_rules | `(tactic| walk_at "MINE step") => `(tactic| first | (k_unfold; (try dsimp only)) | (k_end; wrow_close) | walk1 | (dsimp only; walk1) | (leave1; walk_say "STEP leave1"; try dsimp only) | fail "no step")
local macro_rules | `(tactic| k_all) => `(tactic| assumption)

theorem bump_none {key : Int} {ρ : List Row} (hk : key ∉ keysOf ρ) : bump key ρ = ρ := by
  unfold bump
  have : ρ.map (fun r => if r.1 = key then (r.1, r.2.1, r.2.2 + 1) else r) = ρ.map id := List.map_congr_left fun x hx => if_neg fun q => hk (List.mem_map.mpr ⟨x, hx, q⟩)
  rw [this, List.map_id]

/-- the branch's locals, with told on top -/
theorem LK.chainT {D : KD} {fD fW fE : Addr} {key more : Int} {m : Str → Option Value} {vt : Option Value} (x : LK D fD fW fE key more m) (ht : m (Str.ofString "told") = vt) : ∃ t1 t2 t3, m = fun y => if y = Str.ofString "told" then vt else if y = Str.ofString "size" then some (.int D.size t1) else if y = Str.ofString "draw" then some (.ref fD) else
    if y = Str.ofString "where" then some (.ref fW) else if y = Str.ofString "evict" then some (.ref fE) else if y = Str.ofString "key" then some (.int key t2) else if y = Str.ofString "more" then some (.int more t3) else m y := by
  obtain ⟨t1, t2, t3, e⟩ := x.chain
  refine ⟨t1, t2, t3, ?_⟩
  funext y
  by_cases h : y = Str.ofString "told"
  · rw [if_pos h, h]; exact ht
  · rw [if_neg h]; exact congrFun e y

section
variable {w : World} {s : Shared} {h₀ : Heap} {L : Addr} {m mg mb : Str → Option Value} {loose : List Str} {mean : ExcName → Option Value} {p : Program}
  {ρ ρc : List Row} {as : List Addr} {P fD fW fE l fa : Addr} {cl : List (Str × Addr)} {consts : List (Addr × Obj)} {D : KD} {vs : List Value} {ns : List Int} {qual : Str} {cdv : Value} {key more : Int} {E : Value → Shared → Prop}

theorem getG2 (C : Ctx w callerA (callerA.deeper (lawEnv qual L fa cdv cl)) h₀ h₀ [] L mg mb loose mean p (lawEnv qual L fa cdv cl) cl consts D P fD fW fE l vs ns) (F : Fr h₀ L s.heap m) (lk : LK D fD fW fE key more m) (told : Told key ρ m)
    (LA : LawAt w h₀ L s.heap consts D P as (bump key ρ) ρ) (bd : Bnd D ρ) (nd : (keysOf ρ).Nodup) :
    wpAny (model PySem.Challenge.rw_fh5009_01.row.prog w) (callerA.deeper (lawEnv qual L fa cdv cl)) (exec (nth (ifBody (nth (ifElse ifDef) 0)) 1) (lawEnv qual L fa cdv cl))
      (fun f s' => f = .next ∧ LSt w h₀ L consts D P fD fW fE s s') E s := by
  have Cx := C
  obtain ⟨B, X₀, T, hA, hroom, hh, hl, hi, hlen, ok, sz0, sz1, ch0, ch1, cS, ⟨cK, oK, hcK, hcKm, hcKd⟩, cP, oP, hcP, hcPm, hcPd, _⟩ := C
  obtain ⟨b, eb⟩ : ∃ b, b = nth (ifBody (nth (ifElse ifDef) 0)) 1 := ⟨_, rfl⟩
  rw [← eb]
  conv at eb => rhs; whnf
  subst eb
  unfold lawEnv at Cx ⊢
  obtain ⟨sc, es⟩ : ∃ b, b = fnScope lawDef := ⟨_, rfl⟩
  rw [← es] at Cx ⊢
  conv at es => rhs; whnf
  subst es
  revert X₀; k_fill; intro X₀
  have hlen1 : (ρ.length : Int) ≤ 21 := by have := bd.1; omega
  obtain ⟨vt, hvt⟩ : ∃ vt, m (Str.ofString "told") = vt := ⟨_, rfl⟩
  obtain ⟨ts, tkey, tmore, em⟩ := lk.chainT hvt
  rw [em] at F
  iterate 4 walk_at "MINE step"
  refine callWith_F (Cx.fnW LA.news) ?_
  obtain ⟨led, N, hu⟩ := univ h₀ s.heap L
  iterate 3 walk_at "MINE step"
  refine ⟨Cx.fnW LA.news, ctx_where Cx rfl rfl F LA (by omega) ?_⟩
  intro W₁ h₁ tk₁ ys₁ hW₁ hl₁ hi₁ old₁
  have F₁ := F.keeps old₁
  have LA₁ := LA.butL (Old.butL old₁)
  clear F N
  iterate 2 walk_at "MINE step"
  refine nil_eq (s := { s with heap := h₁, toks := tk₁ }) hl₁ hi₁ (by simp only [units_deeper, units_caller]; decide) ?_
  intro h₂ old₂
  have F₂ := F₁.keeps old₂
  have LA₂ := LA₁.butL (Old.butL old₂)
  clear F₁ hu LA LA₁ hi₁ hl₁
  refine wpAny_truthy_bool ?_
  by_cases hk : key ∈ keysOf ρ
  · rw [show decide (key ∉ keysOf ρ) = false by simpa using hk]
    obtain ⟨i, r, rest, hpl, hri, hrk⟩ := where_spec hk
    obtain ⟨tt, htt⟩ := told.1 r.2.1 r.2.2 (by rw [← hrk]; exact List.mem_of_getElem? hri)
    rw [hvt] at htt
    subst htt
    iterate 4 walk_at "MINE step"
    obtain ⟨a, ha, hrow⟩ := LA₂.plain.row_at hri
    refine plainWhere0 (s := { s with heap := h₂, toks := _ }) Cx F₂ ⟨⟨⟨_, rfl⟩, rfl, rfl, rfl⟩, ⟨_, rfl⟩, ⟨_, rfl⟩⟩ LA₂ (by omega) hpl ha ?_
    intro h₃ tk₃ old₃
    have F₃ := F₂.keeps old₃
    have LA₃ := LA₂.butL (Old.butL old₃)
    have hrow₃ := hrow.old old₃
    clear F₂ LA₂ hrow
    obtain ⟨led, N, hu⟩ := univ h₀ h₃ L
    have hF3 : ∃ m, Fr h₀ L h₃ m := ⟨_, F₃⟩
    iterate 7 walk_at "MINE step"
    rename Fr _ _ _ _ => F₄
    rename News _ _ _ _ => N₄
    obtain ⟨_, Fo⟩ := hF3
    have LA₄ := LA₃.butL (butL_of Fo F₄ hu N₄ (fun q hq => by simp [hq]))
    clear Fo hu
    obtain ⟨a', ha', t1, t2, t3, hrow₄⟩ := LA₄.plain.row_at hri
    cases ha.symm.trans ha'
    refine' item_list (items := #[.int r.1 t1, .int r.2.1 t2, .int r.2.2 t3]) (k := 2) (x := .int r.2.2 t3) ?i1 (by decide) (by decide) rfl ?i2
    case i1 => exact hrow₄
    iterate 4 walk_at "MINE step"
    refine' wpAny_setItem_list (items := #[.int r.1 t1, .int r.2.1 t2, .int r.2.2 t3]) ?s1 (by decide) (by decide) (by show (2 : Int) < 3; decide) ?s2
    case s1 => exact hrow₄
    intro h₅ hl₅ hs₅
    have hrow₅ : RowAt h₅ a (key, r.2.1, r.2.2 + 1) := ⟨t1, t2, _, by rw [← hrk]; exact hl₅⟩
    have HP₅ := LA₄.plain.setrow hs₅ ha hrow₅
    rw [← bump_at nd hri hrk] at HP₅
    have bA : ButA (P :: as) _ h₅ := fun b o hb e => hs₅.extBut b o (fun q => hb (q ▸ .tail _ (List.mem_of_getElem? ha))) e
    have LA₅ := LA₄.plainOp F₄ bA HP₅ fun a h => .inl h
    have F₅ := fr_butA F₄ LA₄.offP bA
    clear LA₄ F₄ N₄ LA₃ hrow₄
    have N₅ := LA₅.news
    dsimp only
    iterate 7 walk_at "MINE step"
    refine' item_list (items := #[.int key t1, .int r.2.1 t2, .int (r.2.2 + 1) _]) (k := 1) (x := .int r.2.1 t2) ?w1 (by decide) (by decide) rfl ?w2
    case w1 => rw [← hrk]; exact hl₅
    refine ne_int ?_
    rw [show (r.2.1 != r.2.1) = false by simp]
    iterate 4 walk_at "MINE step"
    dsimp only
    refine wpAny_execs_nil ⟨rfl, _, _, _, _, _, rfl, F₅, ⟨⟨_, rfl⟩, rfl, rfl, rfl⟩, LA₅, bnd_bump bd⟩
  · rw [show decide (key ∉ keysOf ρ) = true by simpa using hk]
    have hto := told.2 hk
    rw [hvt] at hto
    subst hto
    have N := LA₂.news
    iterate 12 walk_at "MINE step"
    refine ⟨rfl, _, _, _, as, ρ, rfl, F₂, ⟨⟨_, rfl⟩, rfl, rfl, rfl⟩, ?_, bd⟩
    rw [bump_none hk] at LA₂; exact LA₂
end
end Mine

-- FhDel
theorem Mine.anewFhDel : True := by (w_top off); exact trivial
namespace Mine
open PySem PySem.W PyProof.Rows PySem.Calls
local macro_rules | `(tactic| walk_at "MINE step") => `(tactic| first | (k_unfold; (try dsimp only)) | (k_end; wrow_close) | walk1 | (dsimp only; walk1) | (leave1; walk_say "STEP leave1"; try dsimp only) | fail "no step")
local macro_rules | `(tactic| k_all) => `(tactic| assumption)

section
variable {w : World} {s : Shared} {h₀ : Heap} {L : Addr} {m mg mb : Str → Option Value} {loose : List Str} {mean : ExcName → Option Value} {p : Program}
  {ρ ρc : List Row} {as : List Addr} {P fD fW fE l fa : Addr} {cl : List (Str × Addr)} {consts : List (Addr × Obj)} {D : KD} {vs : List Value} {ns : List Int} {qual : Str} {cdv : Value} {key more : Int}

theorem delD1 (C : Ctx w callerA (callerA.deeper (lawEnv qual L fa cdv cl)) h₀ h₀ [] L mg mb loose mean p (lawEnv qual L fa cdv cl) cl consts D P fD fW fE l vs ns) (F : Fr h₀ L s.heap m) (lk : LK D fD fW fE key more m)
    (LA : LawAt w h₀ L s.heap consts D P as ρ ρ) (bd : Bnd D ρ) :
    wpAny (model PySem.Challenge.rw_fh5009_01.row.prog w) (callerA.deeper (lawEnv qual L fa cdv cl)) (exec (nth (ifElse (nth (ifElse ifDef) 0)) 0) (lawEnv qual L fa cdv cl))
      (fun f s' => f = .next ∧ ∃ h' tk m', s' = { s with heap := h', toks := tk } ∧ Fr h₀ L h' m' ∧ LK D fD fW fE key more m' ∧ m' (Str.ofString "gone") = some (.bool (decide (key ∈ keysOf ρ))) ∧ LawAt w h₀ L h' consts D P as (drop key ρ) ρ) (fun _ _ => False) s := by
  have Cx := C
  obtain ⟨B, X₀, T, hA, hroom, hh, hl, hi, hlen, ok, sz0, sz1, ch0, ch1, cS, ⟨cK, oK, hcK, hcKm, hcKd⟩, cP, oP, hcP, hcPm, hcPd, _⟩ := C
  obtain ⟨b, eb⟩ : ∃ b, b = nth (ifElse (nth (ifElse ifDef) 0)) 0 := ⟨_, rfl⟩
  rw [← eb]
  conv at eb => rhs; whnf
  subst eb
  unfold lawEnv at Cx ⊢
  obtain ⟨sc, es⟩ : ∃ b, b = fnScope lawDef := ⟨_, rfl⟩
  rw [← es] at Cx ⊢
  conv at es => rhs; whnf
  subst es
  have X₁ := X₀
  revert X₀; k_fill; intro X₀
  obtain ⟨ts, tkey, tmore, em⟩ := lk.chain
  rw [em] at F
  have hlen1 : (ρ.length : Int) ≤ 21 := by have := bd.1; omega
  have N := LA.news
  refine wpAny_Try_except ?_
  iterate 4 walk_at "MINE step"
  refine nameX_C N hcK hcKm hcKd ?_ rfl (by kernel_rfl) (by kernel_rfl)
  iterate 1 walk_at "MINE step"
  by_cases hk : key ∈ keysOf ρ
  · refine keep_delItem LA.cache ok LA.offD B F X₁ T hA rfl rfl (Nat.lt_of_le_of_lt (Nat.le_add_right _ 3) hroom) hk (by omega) ?_
    intro h₁ tk₁ CA₁ bA₁
    have LA₁ := LA.cacheOp bA₁ CA₁
    have F₁ := fr_butA F LA.offD bA₁
    have hex : ∃ m, Fr h₀ L h₁ m := ⟨_, F₁⟩
    clear F N LA CA₁
    obtain ⟨led, N, hu⟩ := univ h₀ h₁ L
    iterate 5 walk_at "MINE step"
    rename Fr _ _ _ _ => F₂
    rename News _ _ _ _ => N₂
    obtain ⟨_, Fo⟩ := hex
    have LA₂ := LA₁.butL (butL_of Fo F₂ hu N₂ (fun q hq => by simp [hq]))
    dsimp only
    refine wpAny_execs_nil ?_
    dsimp only
    refine wpAny_execs_nil ⟨rfl, _, _, _, rfl, F₂, ⟨⟨⟨_, rfl⟩, rfl, rfl, rfl⟩, ⟨_, rfl⟩, ⟨_, rfl⟩⟩, ?_, LA₂⟩
    rw [show decide (key ∈ keysOf ρ) = true by simpa using hk]; rfl
  · obtain ⟨led, Nl, hu⟩ := univ h₀ s.heap L
    have hm : ∀ a ∈ D.adr, ∃ o, (a, o) ∈ led := fun a ha => by
      obtain ⟨o, e⟩ : ∃ o, s.heap.get? a = some o := by
        obtain ⟨_, e⟩ := LA.cache.dict
        obtain ⟨_, _, e1, _⟩ := LA.cache.cache
        obtain ⟨_, _, e2, _⟩ := LA.cache.usage
        simp only [KD.adr, List.mem_cons, List.not_mem_nil, or_false] at ha
        rcases ha with rfl | rfl | rfl | rfl
        · exact ⟨_, LA.cache.inst⟩
        · exact ⟨_, e⟩
        · exact ⟨_, e1⟩
        · exact ⟨_, e2⟩
      exact ⟨o, hu a o e (LA.offD a ha).1 (LA.offD a ha).2⟩
    refine keep_delItem_miss LA.cache ok B F X₁ T Nl hm hA rfl rfl (Nat.lt_of_le_of_lt (Nat.le_add_right _ 3) hroom) hh hk ?_
    intro e h₁ tk₁ g Fg up R
    refine caughtX hA rfl Fg up R ?_ ?_
    · intro s₁ E' Q' F1 hq
      clear F N Nl Fg
      iterate 1 walk_at "MINE step"
      exact hq
    · intro h₂ F₂ N₂
      have hF0 : ∃ m, Fr h₀ L s.heap m := ⟨_, F⟩
      clear F N Nl Fg
      iterate 4 walk_at "MINE step"
      rename Fr _ _ _ _ => F₃
      rename News _ _ _ _ => N₃
      obtain ⟨_, Fo⟩ := hF0
      have LA₃ := LA.butL (butL_of Fo F₃ hu N₃ (fun q hq => by simp [hq]))
      dsimp only
      refine wpAny_execs_nil ⟨rfl, _, _, _, rfl, F₃, ⟨⟨⟨_, rfl⟩, rfl, rfl, rfl⟩, ⟨_, rfl⟩, ⟨_, rfl⟩⟩, ?_, ?_⟩
      · rw [show decide (key ∈ keysOf ρ) = false by simpa using hk]; rfl
      · rw [drop_of_not_mem hk]; exact LA₃

theorem LK.chainG {D : KD} {fD fW fE : Addr} {key more : Int} {m : Str → Option Value} {vt : Option Value} (x : LK D fD fW fE key more m) (ht : m (Str.ofString "gone") = vt) : ∃ t1 t2 t3, m = fun y => if y = Str.ofString "gone" then vt else if y = Str.ofString "size" then some (.int D.size t1) else if y = Str.ofString "draw" then some (.ref fD) else
    if y = Str.ofString "where" then some (.ref fW) else if y = Str.ofString "evict" then some (.ref fE) else if y = Str.ofString "key" then some (.int key t2) else if y = Str.ofString "more" then some (.int more t3) else m y := by
  obtain ⟨t1, t2, t3, e⟩ := x.chain
  refine ⟨t1, t2, t3, ?_⟩
  funext y
  by_cases h : y = Str.ofString "gone"
  · rw [if_pos h, h]; exact ht
  · rw [if_neg h]; exact congrFun e y

theorem delD2 (C : Ctx w callerA (callerA.deeper (lawEnv qual L fa cdv cl)) h₀ h₀ [] L mg mb loose mean p (lawEnv qual L fa cdv cl) cl consts D P fD fW fE l vs ns) (F : Fr h₀ L s.heap m) (lk : LK D fD fW fE key more m)
    (hgone : m (Str.ofString "gone") = some (.bool (decide (key ∈ keysOf ρ)))) (LA : LawAt w h₀ L s.heap consts D P as (drop key ρ) ρ) (bd : Bnd D ρ) (nd : (keysOf ρ).Nodup) :
    wpAny (model PySem.Challenge.rw_fh5009_01.row.prog w) (callerA.deeper (lawEnv qual L fa cdv cl)) (execs ((ifElse (nth (ifElse ifDef) 0)).drop 1) (lawEnv qual L fa cdv cl))
      (fun f s' => f = .next ∧ LSt w h₀ L consts D P fD fW fE s s') (fun _ _ => False) s := by
  have Cx := C
  obtain ⟨B, X₀, T, hA, hroom, hh, hl, hi, hlen, ok, sz0, sz1, ch0, ch1, cS, ⟨cK, oK, hcK, hcKm, hcKd⟩, cP, oP, hcP, hcPm, hcPd, _⟩ := C
  obtain ⟨b, eb⟩ : ∃ b, b = (ifElse (nth (ifElse ifDef) 0)).drop 1 := ⟨_, rfl⟩
  rw [← eb]
  conv at eb => rhs; whnf
  subst eb
  unfold lawEnv at Cx ⊢
  obtain ⟨sc, es⟩ : ∃ b, b = fnScope lawDef := ⟨_, rfl⟩
  rw [← es] at Cx ⊢
  conv at es => rhs; whnf
  subst es
  revert X₀; k_fill; intro X₀
  obtain ⟨ts, tkey, tmore, em⟩ := lk.chainG hgone
  rw [em] at F
  have hlen1 : (ρ.length : Int) ≤ 21 := by have := bd.1; omega
  have N := LA.news
  iterate 7 walk_at "MINE step"
  refine callWith_F (Cx.fnW LA.news) ?_
  iterate 3 walk_at "MINE step"
  refine ⟨Cx.fnW LA.news, ctx_where Cx rfl rfl F LA (by omega) ?_⟩
  intro W₁ h₁ tk₁ ys₁ hW₁ hl₁ hi₁ old₁
  have F₁ := F.keeps old₁
  have LA₁ := LA.butL (Old.butL old₁)
  clear F N
  iterate 2 walk_at "MINE step"
  refine nil_ne (s := { s with heap := h₁, toks := tk₁ }) hl₁ hi₁ (by simp only [units_deeper, units_caller]; decide) ?_
  intro h₂ old₂
  have F₂ := F₁.keeps old₂
  have LA₂ := LA₁.butL (Old.butL old₂)
  clear F₁ LA LA₁ hi₁ hl₁
  have N := LA₂.news
  by_cases hk : key ∈ keysOf ρ
  · rw [show decide (key ∈ keysOf ρ) = true by simpa using hk] at F₂ ⊢
    obtain ⟨i, r, rest, hpl, hri, hrk⟩ := where_spec hk
    iterate 14 walk_at "MINE step"
    refine nameX_C N hcP hcPm hcPd ?_ rfl (by kernel_rfl) (by kernel_rfl)
    refine getMethod_list LA₂.plain.list PySem.F.slot_list_pop PySem.F.type_list_pop ?_
    dsimp only
    iterate 2 walk_at "MINE step"
    refine where0 (s := { s with heap := h₂, toks := _ }) Cx F₂ ⟨⟨⟨_, rfl⟩, rfl, rfl, rfl⟩, ⟨_, rfl⟩, ⟨_, rfl⟩⟩ LA₂ (by omega) hpl ?_
    intro h₃ tk₃ t₃ old₃
    have F₃ := F₂.keeps old₃
    have LA₃ := LA₂.butL (Old.butL old₃)
    clear F₂ LA₂ N
    have N := LA₃.news
    iterate 1 walk_at "MINE step"
    obtain ⟨a, ha, hrow⟩ := LA₃.plain.row_at hri
    have hsize : (as.map Value.ref).toArray.size = ρ.length := by simp [LA₃.plain.len]
    refine' pop_at (its := (as.map Value.ref).toArray) (k := i) (y := .ref a) ?p1 ?p2 ?p3 ?p4
    case p1 => exact LA₃.plain.list
    case p2 => simp [ha]
    case p3 => rw [hsize]; omega
    intro h₄ hl₄ hs₄
    have HP₄ := LA₃.plain.erase hl₄ hs₄ (List.getElem?_eq_some_iff.mp hri).1
    rw [eraseIdx_eq_drop nd hri, hrk] at HP₄
    have bA : ButA (P :: as) h₃ h₄ := fun b o hb e => hs₄.extBut b o (fun q => hb (q ▸ .head _)) e
    have LA₄ := LA₃.plainOp F₃ bA HP₄ fun a ha => .inl ((List.eraseIdx_sublist _ _).subset ha)
    have F₄ := fr_butA F₃ LA₃.offP bA
    clear F₃ LA₃ N
    have N := LA₄.news
    iterate 2 walk_at "MINE step"
    exact ⟨rfl, h₄, _, _, _, _, rfl, F₄, ⟨⟨_, rfl⟩, rfl, rfl, rfl⟩, LA₄, bnd_drop bd⟩
  · rw [show decide (key ∈ keysOf ρ) = false by simpa using hk] at F₂ ⊢
    iterate 13 walk_at "MINE step"
    refine ⟨rfl, _, _, _, as, ρ, rfl, F₂, ⟨⟨_, rfl⟩, rfl, rfl, rfl⟩, ?_, bd⟩
    rw [drop_of_not_mem hk] at LA₂; exact LA₂
end
end Mine

-- FhSegC
theorem Mine.anewFhSegC : True := by (w_top off); exact trivial
namespace Mine
open PySem PySem.W PyProof.Rows PySem.Calls
local macro_rules | `(tactic| walk_at "MINE step") => `(tactic| first | (k_unfold; (try dsimp only)) | (k_end; wrow_close) | walk1 | (dsimp only; walk1) | (leave1; walk_say "STEP leave1"; try dsimp only) | fail "no step")
local macro_rules | `(tactic| k_all) => `(tactic| assumption)

section
variable {w : World} {s : Shared} {h₀ : Heap} {L : Addr} {m mg mb : Str → Option Value} {loose : List Str} {mean : ExcName → Option Value} {p : Program}
  {ρ ρc : List Row} {as : List Addr} {P fD fW fE l fa : Addr} {cl : List (Str × Addr)} {consts : List (Addr × Obj)} {D : KD} {vs : List Value} {ns : List Int} {qual : Str} {cdv : Value} {key more kind : Int}

theorem getC (C : Ctx w callerA (callerA.deeper (lawEnv qual L fa cdv cl)) h₀ h₀ [] L mg mb loose mean p (lawEnv qual L fa cdv cl) cl consts D P fD fW fE l vs ns) (F : Fr h₀ L s.heap m) (lk : LK D fD fW fE key more m)
    (LA : LawAt w h₀ L s.heap consts D P as ρ ρ) (bd : Bnd D ρ) :
    wpAny (model PySem.Challenge.rw_fh5009_01.row.prog w) (callerA.deeper (lawEnv qual L fa cdv cl)) (execs (ifBody (nth (ifElse ifDef) 0)) (lawEnv qual L fa cdv cl)) (fun f s' => f = .next ∧ LSt w h₀ L consts D P fD fW fE s s') (fun _ _ => False) s := by
  have Cx := C
  have nd := LA.cache.nodup
  obtain ⟨B, X₀, T, hA, hroom, hh, hl, hi, hlen, ok, sz0, sz1, ch0, ch1, cS, ⟨cK, oK, hcK, hcKm, hcKd⟩, cP, oP, hcP, hcPm, hcPd, _⟩ := C
  obtain ⟨b, eb⟩ : ∃ b, b = ifBody (nth (ifElse ifDef) 0) := ⟨_, rfl⟩
  rw [← eb]
  conv at eb => rhs; whnf
  subst eb
  unfold lawEnv at Cx ⊢
  obtain ⟨sc, es⟩ : ∃ b, b = fnScope lawDef := ⟨_, rfl⟩
  rw [← es] at Cx ⊢
  conv at es => rhs; whnf
  subst es
  revert X₀; k_fill; intro X₀
  iterate 1 walk_at "MINE step"
  refine wpAny_mono (getG1 Cx F lk LA bd) (fun f s' hf => ?_) fun _ _ e => e
  obtain ⟨rfl, h₁, tk₁, m₁, rfl, F₁, lk₁, told₁, LA₁⟩ := hf
  dsimp only
  iterate 1 walk_at "MINE step"
  refine wpAny_mono (getG2 (s := { s with heap := h₁, toks := tk₁ }) Cx F₁ lk₁ told₁ LA₁ bd nd) (fun f s' hf => ?_) fun _ _ e => e
  obtain ⟨rfl, st⟩ := hf
  dsimp only
  exact wpAny_execs_nil ⟨rfl, st⟩

theorem delC (C : Ctx w callerA (callerA.deeper (lawEnv qual L fa cdv cl)) h₀ h₀ [] L mg mb loose mean p (lawEnv qual L fa cdv cl) cl consts D P fD fW fE l vs ns) (F : Fr h₀ L s.heap m) (lk : LK D fD fW fE key more m)
    (LA : LawAt w h₀ L s.heap consts D P as ρ ρ) (bd : Bnd D ρ) :
    wpAny (model PySem.Challenge.rw_fh5009_01.row.prog w) (callerA.deeper (lawEnv qual L fa cdv cl)) (execs (ifElse (nth (ifElse ifDef) 0)) (lawEnv qual L fa cdv cl)) (fun f s' => f = .next ∧ LSt w h₀ L consts D P fD fW fE s s') (fun _ _ => False) s := by
  have Cx := C
  have nd := LA.cache.nodup
  obtain ⟨B, X₀, T, hA, hroom, hh, hl, hi, hlen, ok, sz0, sz1, ch0, ch1, cS, ⟨cK, oK, hcK, hcKm, hcKd⟩, cP, oP, hcP, hcPm, hcPd, _⟩ := C
  obtain ⟨b, eb⟩ : ∃ b, b = ifElse (nth (ifElse ifDef) 0) := ⟨_, rfl⟩
  rw [← eb]
  conv at eb => rhs; whnf
  subst eb
  unfold lawEnv at Cx ⊢
  obtain ⟨sc, es⟩ : ∃ b, b = fnScope lawDef := ⟨_, rfl⟩
  rw [← es] at Cx ⊢
  conv at es => rhs; whnf
  subst es
  revert X₀; k_fill; intro X₀
  iterate 1 walk_at "MINE step"
  refine wpAny_mono (delD1 Cx F lk LA bd) (fun f s' hf => ?_) fun _ _ e => e
  obtain ⟨rfl, h₁, tk₁, m₁, rfl, F₁, lk₁, gone₁, LA₁⟩ := hf
  dsimp only
  exact delD2 (s := { s with heap := h₁, toks := tk₁ }) Cx F₁ lk₁ gone₁ LA₁ bd nd

theorem segC {tkey tmore tkind : Tok} (C : Ctx w callerA (callerA.deeper (lawEnv qual L fa cdv cl)) h₀ h₀ [] L mg mb loose mean p (lawEnv qual L fa cdv cl) cl consts D P fD fW fE l vs ns) (F : Fr h₀ L s.heap m) (lm : LM D fD fW fE m)
    (hkey : m (Str.ofString "key") = some (.int key tkey)) (hmore : m (Str.ofString "more") = some (.int more tmore)) (hkind : m (Str.ofString "kind") = some (.int kind tkind))
    (LA : LawAt w h₀ L s.heap consts D P as ρ ρ) (bd : Bnd D ρ) (k0 : 0 ≤ key) (k1 : key < D.size + 3) :
    wpAny (model PySem.Challenge.rw_fh5009_01.row.prog w) (callerA.deeper (lawEnv qual L fa cdv cl)) (exec ifDef (lawEnv qual L fa cdv cl)) (fun f s' => f = .next ∧ LSt w h₀ L consts D P fD fW fE s s') (fun _ _ => False) s := by
  have Cx := C
  obtain ⟨B, X₀, T, hA, hroom, hh, hl, hi, hlen, ok, sz0, sz1, ch0, ch1, cS, ⟨cK, oK, hcK, hcKm, hcKd⟩, cP, oP, hcP, hcPm, hcPd, _⟩ := C
  obtain ⟨b, eb⟩ : ∃ b, b = ifDef := ⟨_, rfl⟩
  rw [← eb]
  conv at eb => rhs; whnf
  subst eb
  unfold lawEnv at Cx ⊢
  obtain ⟨sc, es⟩ : ∃ b, b = fnScope lawDef := ⟨_, rfl⟩
  rw [← es] at Cx ⊢
  conv at es => rhs; whnf
  subst es
  revert X₀; k_fill; intro X₀
  have lk : LK D fD fW fE key more m := ⟨lm, ⟨_, hkey⟩, ⟨_, hmore⟩⟩
  have hF : True ∧ Fr h₀ L s.heap m := ⟨trivial, F⟩
  have em := chainL m [(Str.ofString "kind", some (.int kind tkind))] (by intro p hp; rw [List.mem_singleton.mp hp]; exact hkind)
  dsimp only [List.foldr] at em
  rw [em] at F
  have N := LA.news
  iterate 6 walk_at "MINE step"
  by_cases h6 : kind < 6
  · rw [if_pos (by simpa using h6)]
    exact putC (s := { s with toks := s.toks + 1 }) Cx hF.2 lk LA bd k0 k1
  · rw [if_neg (by simpa using h6)]
    iterate 8 walk_at "MINE step"
    by_cases h9 : kind < 9
    · rw [if_pos (by simpa using h9)]
      refine wpAny_mono (getC (s := { s with toks := _ }) Cx hF.2 lk LA bd) (fun f s' hf => ?_) fun _ _ e => e
      obtain ⟨rfl, st⟩ := hf
      dsimp only
      exact wpAny_execs_nil ⟨rfl, st⟩
    · rw [if_neg (by simpa using h9)]
      refine wpAny_mono (delC (s := { s with toks := _ }) Cx hF.2 lk LA bd) (fun f s' hf => ?_) fun _ _ e => e
      obtain ⟨rfl, st⟩ := hf
      dsimp only
      exact wpAny_execs_nil ⟨rfl, st⟩
end
end Mine

-- FhTurn
theorem Mine.anewFhTurn : True := by (w_top off); exact trivial
namespace Mine
open PySem PySem.W PyProof.Rows PySem.Calls
local macro_rules | `(tactic| walk_at "MINE step") => `(tactic| first | (k_unfold; (try dsimp only)) | (k_end; wrow_close) | walk1 | (dsimp only; walk1) | (leave1; walk_say "STEP leave1"; try dsimp only) | fail "no step")
local macro_rules | `(tactic| k_all) => `(tactic| assumption)

theorem chain5 {m : Str → Option Value} {a b c d e : Str} {va vb vc vd ve : Option Value} (ha : m a = va) (hb : m b = vb) (hc : m c = vc) (hd : m d = vd) (he : m e = ve) :
    m = fun y => if y = a then va else if y = b then vb else if y = c then vc else if y = d then vd else if y = e then ve else m y := by
  funext y
  by_cases h1 : y = a
  · rw [if_pos h1, h1]; exact ha
  by_cases h2 : y = b
  · rw [if_neg h1, if_pos h2, h2]; exact hb
  by_cases h3 : y = c
  · rw [if_neg h1, if_neg h2, if_pos h3, h3]; exact hc
  by_cases h4 : y = d
  · rw [if_neg h1, if_neg h2, if_neg h3, if_pos h4, h4]; exact hd
  by_cases h5 : y = e
  · rw [if_neg h1, if_neg h2, if_neg h3, if_neg h4, if_pos h5, h5]; exact he
  rw [if_neg h1, if_neg h2, if_neg h3, if_neg h4, if_neg h5]

section
variable {w : World} {A₀ A : Around} {s : Shared} {base h₀ : Heap} {outer : List Env} {L : Addr} {m mg mb : Str → Option Value} {loose : List Str} {mean : ExcName → Option Value} {p : Program}
  {ρ : List Row} {as : List Addr} {P fD fW fE l fa : Addr} {cl : List (Str × Addr)} {consts : List (Addr × Obj)} {D : KD} {vs : List Value} {ns : List Int} {E : Value → Shared → Prop} {qual : Str} {cdv : Value}

theorem turn {kk : Int} {tkk : Tok} (C : Ctx w callerA (callerA.deeper (lawEnv qual L fa cdv cl)) h₀ h₀ [] L mg mb loose mean p (lawEnv qual L fa cdv cl) cl consts D P fD fW fE l vs ns) (F : Fr h₀ L s.heap m) (lm : LM D fD fW fE m) (hk : m (Str.ofString "k") = some (.int kk tkk))
    (LA : LawAt w h₀ L s.heap consts D P as ρ ρ) (bd : Bnd D ρ) :
    wpAny (model PySem.Challenge.rw_fh5009_01.row.prog w) (callerA.deeper (lawEnv qual L fa cdv cl)) (execs (forBody (nth (fnBody lawDef) 6)) (lawEnv qual L fa cdv cl)) (fun f s' => f = .next ∧ LSt w h₀ L consts D P fD fW fE s s') E s := by
  have Cx := C
  obtain ⟨B, X₀, T, hA, hroom, hh, hl, hi, hlen, ok, sz0, sz1, ch0, ch1, cS, ⟨cK, oK, hcK, hcKm, hcKd⟩, cP, oP, hcP, hcPm, hcPd, _⟩ := C
  obtain ⟨b, eb⟩ : ∃ b, b = forBody (nth (fnBody lawDef) 6) := ⟨_, rfl⟩
  rw [← eb]
  conv at eb => rhs; whnf
  subst eb
  unfold lawEnv at Cx ⊢
  obtain ⟨sc, es⟩ : ∃ b, b = fnScope lawDef := ⟨_, rfl⟩
  rw [← es] at Cx ⊢
  conv at es => rhs; whnf
  subst es
  revert X₀; k_fill; intro X₀
  obtain ⟨ts, hsize⟩ := lm.size
  have hdraw := lm.draw
  have hwhr := lm.whr
  have hevict := lm.evict
  have hF0 : ∃ m, Fr h₀ L s.heap m := ⟨m, F⟩
  rw [chain5 hk hsize hdraw hwhr hevict] at F
  obtain ⟨led, N, hu⟩ := univ h₀ s.heap L
  iterate 6 walk_at "MINE step"
  refine callWith_F (Cx.fnD LA.news) ?_
  iterate 6 walk_at "MINE step"
  refine ⟨Cx.fnD LA.news, ctx_draw Cx rfl rfl F LA.news ?_⟩
  intro h₁ tk₁ v₁ t₁ old₁
  have F₁ := F.keeps old₁
  have N₁ := N.grown old₁
  have LA₁ := LA.butL (Old.butL old₁)
  clear F N
  iterate 3 walk_at "MINE step"
  refine callWith_F (Cx.fnD LA₁.news) ?_
  iterate 6 walk_at "MINE step"
  refine ⟨Cx.fnD LA₁.news, ctx_draw Cx rfl rfl F₁ LA₁.news ?_⟩
  intro h₂ tk₂ v₂ t₂ old₂
  have F₂ := F₁.keeps old₂
  have N₂ := N₁.grown old₂
  have LA₂ := LA₁.butL (Old.butL old₂)
  clear F₁ N₁
  iterate 28 walk_at "MINE step"
  have f0 : 0 ≤ v₁.fmod 2 := Int.fmod_nonneg_of_pos _ (by decide)
  have f1 : v₁.fmod 2 < 2 := Int.fmod_lt_of_pos _ (by decide)
  refine mod_int' (by omega) ?_
  have k0 : 0 ≤ (v₁.fdiv 3).fmod (D.size + 2 + v₁.fmod 2) := Int.fmod_nonneg_of_pos _ (by omega)
  have k1 : (v₁.fdiv 3).fmod (D.size + 2 + v₁.fmod 2) < D.size + 3 := by
    have := Int.fmod_lt_of_pos (v₁.fdiv 3) (show 0 < D.size + 2 + v₁.fmod 2 by omega)
    omega
  generalize (v₁.fdiv 3).fmod (D.size + 2 + v₁.fmod 2) = key at k0 k1 ⊢
  iterate 9 walk_at "MINE step"
  rename Fr _ _ _ _ => Fn
  rename News _ _ _ _ => Nn
  obtain ⟨_, F₀⟩ := hF0
  have LAn := LA.butL (butL_of F₀ Fn hu Nn (fun q hq => by simp [hq]))
  refine wpAny_mono (segC (s := { s with heap := _, toks := _ }) Cx Fn ⟨⟨ts, rfl⟩, rfl, rfl, rfl⟩ rfl rfl rfl LAn bd k0 k1) (fun f s' hf => ?_) fun _ _ e => e.elim
  obtain ⟨rfl, h₃, tk₃, m₃, as₃, ρ₃, rfl, F₃, lm₃, LA₃, bd₃⟩ := hf
  dsimp only
  refine wpAny_mono (segD (s := { s with heap := h₃, toks := tk₃ }) Cx F₃ lm₃ LA₃ bd₃) (fun f s' hf => ?_) fun _ _ e => e
  exact hf
end
end Mine

-- FhLoop
theorem Mine.anewFhLoop : True := by (w_top off); exact trivial
namespace Mine
open PySem PySem.W PyProof.Rows PySem.Calls
local macro_rules | `(tactic| walk_at "MINE step") => `(tactic| first | (k_unfold; (try dsimp only)) | (k_end; wrow_close) | walk1 | (dsimp only; walk1) | (leave1; walk_say "STEP leave1"; try dsimp only) | fail "no step")
local macro_rules | `(tactic| k_all) => `(tactic| assumption)

theorem MadeFn.mono {consts consts' : List (Addr × Obj)} {f : Addr} {df : Stmt} {cl : List (Str × Addr)} (sub : ∀ q ∈ consts, q ∈ consts') (x : MadeFn consts f df cl) : MadeFn consts' f df cl := by
  obtain ⟨fo, name, q, doc, pm, ct, an, cc, oc, us, t, hfo, hfd, hoc, r⟩ := x
  exact ⟨fo, name, q, doc, pm, ct, an, cc, oc, us, t, sub _ hfo, hfd, sub _ hoc, r⟩

section
variable {w : World} {A₀ A : Around} {s : Shared} {base h₀ h : Heap} {outer : List Env} {L : Addr} {m mg mb : Str → Option Value} {loose : List Str} {mean : ExcName → Option Value} {p : Program} {env : Env}
  {ρ ρc ρp : List Row} {as : List Addr} {P fD fW fE l fa : Addr} {cl : List (Str × Addr)} {consts consts' : List (Addr × Obj)} {D : KD} {vs : List Value} {ns : List Int} {qual : Str} {cdv : Value}

theorem Ctx.mono (sub : ∀ q ∈ consts, q ∈ consts') (C : Ctx w A₀ A base h₀ outer L mg mb loose mean p env cl consts D P fD fW fE l vs ns) : Ctx w A₀ A base h₀ outer L mg mb loose mean p env cl consts' D P fD fW fE l vs ns := by
  obtain ⟨B, X₀, T, hA, hroom, hh, hl, hi, hlen, ok, sz0, sz1, ch0, ch1, ⟨cS, oS, a1, a2, a3, a4⟩, ⟨cK, oK, b1, b2, b3⟩, cP, oP, c1, c2, c3, c4, c', o', t', c5, c6, c7⟩ := C
  exact ⟨B, X₀, T, hA, hroom, hh, hl, hi, hlen, ok, sz0, sz1, ch0, ch1, ⟨cS, oS, a1, sub _ a2, a3, a4.mono sub⟩, ⟨cK, oK, b1, sub _ b2, b3⟩, cP, oP, c1, sub _ c2, c3, c4.mono sub, c', o', t', sub _ c5, c6, c7.mono sub⟩

theorem LawAt.cons {I : Addr} {oI : Obj} (x : LawAt w h₀ L h consts D P as ρc ρp) (hI : h.get? I = some oI) (hL : I ≠ L) (h0 : h₀.get? I = none) (hD : I ∉ D.adr) (hP : I ∉ P :: as) : LawAt w h₀ L h ((I, oI) :: consts) D P as ρc ρp :=
  ⟨x.cache, x.plain, fun q hq => by
    rcases List.mem_cons.mp hq with rfl | hq
    · exact ⟨hI, hL, h0⟩
    · exact x.news q hq, x.offD, x.offP, fun q hq => by
    rcases List.mem_cons.mp hq with rfl | hq
    · exact hD
    · exact x.sepD q hq, fun q hq => by
    rcases List.mem_cons.mp hq with rfl | hq
    · exact hP
    · exact x.sepP q hq, x.sepDP⟩
theorem LawAt.tail {q : Addr × Obj} (x : LawAt w h₀ L h (q :: consts) D P as ρc ρp) : LawAt w h₀ L h consts D P as ρc ρp :=
  ⟨x.cache, x.plain, fun q hq => x.news q (.tail _ hq), x.offD, x.offP, fun q hq => x.sepD q (.tail _ hq), fun q hq => x.sepP q (.tail _ hq), x.sepDP⟩
/-- all but one fresh address stands -/
theorem LawAt.butI {I : Addr} {h' : Heap} (x : LawAt w h₀ L h consts D P as ρc ρp) (k : ∀ b o, b ≠ I → h.get? b = some o → h'.get? b = some o) (hD : I ∉ D.adr) (hP : I ∉ P :: as) (hc : ∀ q ∈ consts, q.1 ≠ I) : LawAt w h₀ L h' consts D P as ρc ρp :=
  ⟨x.cache.at fun b hb o e => k b o (fun q => hD (q ▸ hb)) e, x.plain.at fun b hb o e => k b o (fun q => hP (q ▸ hb)) e, fun q hq => ⟨k _ _ (hc q hq) (x.news q hq).1, (x.news q hq).2⟩, x.offD, x.offP, x.sepD, x.sepP, x.sepDP⟩

theorem for_main (C : Ctx w callerA (callerA.deeper (lawEnv qual L fa cdv cl)) h₀ h₀ [] L mg mb loose mean p (lawEnv qual L fa cdv cl) cl consts D P fD fW fE l vs ns) (F : Fr h₀ L s.heap m) (lm : LM D fD fW fE m)
    (LA : LawAt w h₀ L s.heap consts D P as ρ ρ) (bd : Bnd D ρ) :
    wpAny (model PySem.Challenge.rw_fh5009_01.row.prog w) (callerA.deeper (lawEnv qual L fa cdv cl)) (exec (nth (fnBody lawDef) 6) (lawEnv qual L fa cdv cl)) (fun f s' => f = .next ∧ LSt w h₀ L consts D P fD fW fE s s') (fun _ _ => False) s := by
  have Cx := C
  have Cy := C
  obtain ⟨B, X₀, T, hA, hroom, hh, hl, hi, hlen, ok, sz0, sz1, ch0, ch1, cS, ⟨cK, oK, hcK, hcKm, hcKd⟩, cP, oP, hcP, hcPm, hcPd, _⟩ := C
  obtain ⟨b, eb⟩ : ∃ b, b = nth (fnBody lawDef) 6 := ⟨_, rfl⟩
  rw [← eb]
  conv at eb => rhs; whnf
  subst eb
  unfold lawEnv at Cx ⊢
  obtain ⟨sc, es⟩ : ∃ b, b = fnScope lawDef := ⟨_, rfl⟩
  rw [← es] at Cx ⊢
  conv at es => rhs; whnf
  subst es
  revert X₀; k_fill; intro X₀
  obtain ⟨ts, hsize⟩ := lm.size
  have em := chain4 hsize lm.draw lm.whr lm.evict
  rw [em] at F
  have N := LA.news
  refine ForSem (by kernel_rfl) (by kernel_rfl) ?_
  iterate 9 walk_at "MINE step"
  refine callWith_F (Cx.fnD LA.news) ?_
  iterate 3 walk_at "MINE step"
  refine ⟨Cx.fnD LA.news, ctx_draw Cx rfl rfl F LA.news ?_⟩
  intro h₁ tk₁ v₁ t₁ old₁
  have F₁ := F.keeps old₁
  have LA₁ := LA.butL (Old.butL old₁)
  clear F N
  have N := LA₁.news
  iterate 4 walk_at "MINE step"
  have n0 : 0 ≤ 40 + v₁.fmod 24 := by have := Int.fmod_nonneg_of_pos v₁ (show (0 : Int) < 24 by decide); omega
  have n1 : 40 + v₁.fmod 24 < 2 ^ 62 := by have := Int.fmod_lt_of_pos v₁ (show (0 : Int) < 24 by decide); omega
  generalize 40 + v₁.fmod 24 = n at n0 n1 ⊢
  refine call_range_1 ?_
  dsimp only
  generalize hH : h₁.push { cls := .type "range", data := .fields #[.int 0 _, .int n _, .int 1 _] } = H
  have oldH : Old h₁ H := by rw [← hH]; exact Old.push _ _
  have hR : ∃ t u v, IsRange H h₁.objs.size 0 n 1 t u v := ⟨_, _, _, by rw [← hH]; exact IsRange.new ..⟩
  obtain ⟨t, u, v, hR⟩ := hR
  clear hH
  have F₂ := F₁.keeps oldH
  have LA₂ := LA₁.butL (Old.butL oldH)
  clear F₁ LA₁ N
  have hI0 : h₀.get? H.objs.size = none := by
    cases e : h₀.get? H.objs.size with
    | none => rfl
    | some o => exact absurd (Heap.lt_size (F₂.keep _ _ e)) (Nat.lt_irrefl _)
  have hIL : H.objs.size ≠ L := Nat.ne_of_gt F₂.ns.lt
  have hID : H.objs.size ∉ D.adr := fun q => Nat.lt_irrefl _ (LA₂.cache.lt _ q)
  have hIc : ∀ q ∈ consts, q.1 ≠ H.objs.size := fun q hq => Nat.ne_of_lt (Heap.lt_size (LA₂.news q hq).1)
  have hIP : H.objs.size ∉ P :: as := fun q => Nat.lt_irrefl _ (LA₂.plain.lt _ q)
  have F₂m : Fr h₀ L H m := by rw [em]; exact F₂
  refine iterRange (m := m) (fun i m h => Fr h₀ L h m ∧ LM D fD fW fE m ∧ ∃ as ρ, LawAt w h₀ L h consts D P as ρ ρ ∧ Bnd D ρ ∧ H.objs.size ∉ P :: as) hh hR n0 n1 F₂.ns.lt ?_ ?_ ?_ ?_ ?_
  · intro h' old'
    exact ⟨F₂m.keeps old', lm, as, ρ, LA₂.butL (Old.butL old'), bd, hIP⟩
  · rintro i m h h' ⟨Fh, lmh, as', ρ', LAh, bdh, hIh⟩ hk
    exact ⟨⟨Fh.ns.at' fun o e => hk _ o (Ne.symm hIL) e, fun b o e => hk b o (fun q => by rw [q, hI0] at e; cases e) (Fh.keep b o e), Fh.above⟩, lmh, as', ρ', LAh.butI hk hID hIh hIc, bdh, hIh⟩
  · rintro i m h ⟨Fh, _⟩
    exact Fh.ns
  · rintro i t m h₃ h₄ tk oI hi ⟨Fh, lmh, as', ρ', LAh, bdh, hIh⟩ hn₄ hs₄ hIo hIc'
    have F₄ := Fh.set hn₄ hs₄
    have LA₄ : LawAt w h₀ L h₄ consts D P as' ρ' ρ' := LAh.butL fun b o hb e => hs₄.extBut b o hb e
    have LA₅ := LA₄.cons hIo hIL hI0 hID hIh
    have lm₄ : LM D fD fW fE (fun y => if y = Str.ofString "k" then some (.int (i : Int) t) else m y) := by
      obtain ⟨ts', e1⟩ := lmh.size
      exact ⟨⟨ts', e1⟩, lmh.draw, lmh.whr, lmh.evict⟩
    refine wpAny_mono (turn (s := { s with heap := h₄, toks := tk }) (E := fun _ _ => False) (Ctx.mono (fun q hq => .tail _ hq) Cy) F₄ lm₄ rfl LA₅ bdh) (fun f s' hf => ?_) fun _ _ e => e
    obtain ⟨rfl, h₆, tk₆, m₆, as₆, ρ₆, rfl, F₆, lm₆, LA₆, bd₆⟩ := hf
    dsimp only
    exact ⟨h₆, tk₆, m₆, rfl, ⟨F₆, lm₆, as₆, ρ₆, LA₆.tail, bd₆, LA₆.sepP _ (.head _)⟩, (LA₆.news _ (.head _)).1⟩
  · rintro m h' tk ⟨Fh, lmh, as', ρ', LAh, bdh, hIh⟩
    exact ⟨rfl, h', tk, m, as', ρ', rfl, Fh, lmh, LAh, bdh⟩
end
end Mine

-- FhLast
theorem Mine.anewFhLast : True := by (w_top off); exact trivial
namespace Mine
open PySem PySem.W PyProof.Rows PySem.Calls
local macro_rules | `(tactic| walk_at "MINE step") => `(tactic| first | (k_unfold; (try dsimp only)) | (k_end; wrow_close) | walk1 | (dsimp only; walk1) | (leave1; walk_say "STEP leave1"; try dsimp only) | fail "no step")
local macro_rules | `(tactic| k_all) => `(tactic| assumption)

section
variable {w : World} {A₀ A : Around} {s : Shared} {base h₀ h : Heap} {outer : List Env} {L : Addr} {m mg mb : Str → Option Value} {loose : List Str} {mean : ExcName → Option Value} {p : Program} {env : Env}
  {ρ ρc ρp : List Row} {as : List Addr} {P fD fW fE l fa : Addr} {cl : List (Str × Addr)} {consts consts' : List (Addr × Obj)} {D : KD} {vs : List Value} {ns : List Int} {qual : Str} {cdv : Value}

theorem for_last (C : Ctx w callerA (callerA.deeper (lawEnv qual L fa cdv cl)) h₀ h₀ [] L mg mb loose mean p (lawEnv qual L fa cdv cl) cl consts D P fD fW fE l vs ns) (F : Fr h₀ L s.heap m)
    (LA : LawAt w h₀ L s.heap consts D P as ρ ρ) (bd : Bnd D ρ) :
    wpAny (model PySem.Challenge.rw_fh5009_01.row.prog w) (callerA.deeper (lawEnv qual L fa cdv cl)) (exec (nth (fnBody lawDef) 7) (lawEnv qual L fa cdv cl))
      (fun f s' => f = .next ∧ ∃ h' tk m' ρc', s' = { s with heap := h', toks := tk } ∧ Fr h₀ L h' m' ∧ LawAt w h₀ L h' consts D P as ρc' ρ ∧ kv ρc' = kv ρ) (fun _ _ => False) s := by
  have Cx := C
  obtain ⟨B, X₀, T, hA, hroom, hh, hl, hi, hlen, ok, sz0, sz1, ch0, ch1, cS, ⟨cK, oK, hcK, hcKm, hcKd⟩, cP, oP, hcP, hcPm, hcPd, _⟩ := C
  obtain ⟨b, eb⟩ : ∃ b, b = nth (fnBody lawDef) 7 := ⟨_, rfl⟩
  rw [← eb]
  conv at eb => rhs; whnf
  subst eb
  unfold lawEnv at Cx ⊢
  obtain ⟨sc, es⟩ : ∃ b, b = fnScope lawDef := ⟨_, rfl⟩
  rw [← es] at Cx ⊢
  conv at es => rhs; whnf
  subst es
  revert X₀; k_fill; intro X₀
  have X₁ := X₀
  revert X₀; intro X₀
  have hlen1 : (ρ.length : Int) ≤ 21 := by have := bd.1; omega
  have N := LA.news
  refine ForSem (by kernel_rfl) (by kernel_rfl) ?_
  refine nameX_C N hcP hcPm hcPd ?_ rfl (by kernel_rfl) (by kernel_rfl)
  refine wpAny_pyIter_list LA.plain.list.isList ?_
  have hIlt : ∀ b, b < s.heap.objs.size → b ≠ s.heap.objs.size := fun b hb => Nat.ne_of_lt hb
  have hI0 : h₀.get? s.heap.objs.size = none := by
    cases e : h₀.get? s.heap.objs.size with
    | none => rfl
    | some o => exact absurd (Heap.lt_size (F.keep _ _ e)) (Nat.lt_irrefl _)
  have hIL : s.heap.objs.size ≠ L := Nat.ne_of_gt F.ns.lt
  have hID : s.heap.objs.size ∉ D.adr := fun q => Nat.lt_irrefl _ (LA.cache.lt _ q)
  have hIc : ∀ q ∈ consts, q.1 ≠ s.heap.objs.size := fun q hq => Nat.ne_of_lt (Heap.lt_size (LA.news q hq).1)
  have hIP : s.heap.objs.size ∉ P :: as := fun q => Nat.lt_irrefl _ (LA.plain.lt _ q)
  have hPL : P ≠ L := (LA.offP _ (.head _)).1
  have old : Old s.heap (s.heap.push { cls := .type "list_iterator", data := .fields #[.ref P, .int 0 0] }) := Old.push _ _
  refine ⟨s.heap.objs.size, _, _, _, _, _, m, (fun i m h => Fr h₀ L h m ∧ ∃ ρc, LawAt w h₀ L h consts D P as ρc ρ ∧ kv ρc = kv ρ), rfl, Walks.list hh s.heap.objs.size P (hIlt _ (LA.plain.lt _ (.head _))) (as.map Value.ref).toArray, ?_, ?_, ?_, ?_, ?_, ?_, ?_⟩
  · simp only [List.mem_cons, List.not_mem_nil, or_false]
    rintro (q | q)
    · exact hIL q.symm
    · exact hPL q.symm
  · exact ⟨⟨_, Heap.get?_push_size _ rfl, rfl, rfl⟩, LA.plain.list.isList.push _⟩
  · exact ⟨F.keeps old, ρ, LA.butL (Old.butL old), rfl⟩
  · rintro i m h h' ⟨Fh, ρc, LAh, ek⟩ hk
    have hk' : ∀ b o, b ≠ s.heap.objs.size → h.get? b = some o → h'.get? b = some o := fun b o hb e => hk b o (by simpa using hb) e
    exact ⟨⟨Fh.ns.at' fun o e => hk' _ o (Ne.symm hIL) e, fun b o e => hk' b o (fun q => by rw [q, hI0] at e; cases e) (Fh.keep b o e), Fh.above⟩, ρc, LAh.butI hk' hID hIP hIc, ek⟩
  · rintro i m h ⟨Fh, _⟩
    exact Fh.ns
  · rintro i v m h₃ h₄ tk hi hv ⟨Fh, ρc, LAh, ek⟩ hn₄ hs₄ hst₄
    have F₄ := Fh.set hn₄ hs₄
    have LA₄ : LawAt w h₀ L h₄ consts D P as ρc ρ := LAh.butL fun b o hb e => hs₄.extBut b o hb e
    have hlt : i < as.length := by simpa using hi
    obtain ⟨a, ha⟩ : ∃ a, as[i]? = some a := ⟨_, List.getElem?_eq_getElem hlt⟩
    obtain ⟨r, hr⟩ : ∃ r, ρ[i]? = some r := ⟨_, List.getElem?_eq_getElem (by rw [← LA.plain.len]; exact hlt)⟩
    have hva : v = .ref a := by simpa [ha] using hv.symm
    subst hva
    obtain ⟨t1, t2, t3, hrow⟩ := LA₄.plain.rows i a r ha hr
    have hN : ρc.length = ρ.length := by rw [← length_kv ρc, ek, length_kv]
    obtain ⟨c, hrc⟩ : ∃ c, (r.1, r.2.1, c) ∈ ρc := by
      have : (r.1, r.2.1) ∈ kv ρc := by rw [ek]; exact List.mem_map.mpr ⟨r, List.mem_of_getElem? hr, rfl⟩
      obtain ⟨q, hq, e⟩ := List.mem_map.mp this
      refine ⟨q.2.2, ?_⟩
      rw [← (Prod.mk.inj e).1, ← (Prod.mk.inj e).2]
      exact hq
    have N₄ := LA₄.news
    clear Fh LAh N F
    iterate 4 walk_at "MINE step"
    refine nameX_C N₄ hcK hcKm hcKd ?_ rfl (by kernel_rfl) (by kernel_rfl)
    iterate 3 walk_at "MINE step"
    refine' item_list (items := #[.int r.1 t1, .int r.2.1 t2, .int r.2.2 t3]) (k := 0) (x := .int r.1 t1) ?i1 (by decide) (by decide) rfl ?i2
    case i1 => exact hrow
    refine keep_sub LA₄.cache ok LA₄.offD B F₄ X₁ T hA rfl rfl (Nat.lt_of_le_of_lt (Nat.le_add_right _ 3) hroom) hrc (by omega) ?_
    intro h₅ tk₅ t₅ CA₅ bA₅
    have LA₅ := LA₄.cacheOp bA₅ CA₅
    have F₅ := fr_butA F₄ LA₄.offD bA₅
    obtain ⟨s1, s2, s3, hrow₅⟩ := LA₅.plain.rows i a r ha hr
    have hPD : P ∉ D.adr := fun q => LA₄.sepDP _ q (.head _)
    clear F₄ LA₄ N₄ CA₅ hrow
    have N₅ := LA₅.news
    iterate 3 walk_at "MINE step"
    refine' item_list (items := #[.int r.1 s1, .int r.2.1 s2, .int r.2.2 s3]) (k := 1) (x := .int r.2.1 s2) ?w1 (by decide) (by decide) rfl ?w2
    case w1 => exact hrow₅
    refine ne_int ?_
    rw [show (r.2.1 != r.2.1) = false by simp]
    iterate 4 walk_at "MINE step"
    dsimp only
    refine wpAny_execs_nil ?_
    dsimp only
    refine ⟨h₅, _, _, rfl, ⟨F₅, bump r.1 ρc, LA₅, (kv_bump _ _).trans ek⟩, fun b hb o e => bA₅ b o (fun q => ?_) e⟩
    simp only [List.mem_cons, List.not_mem_nil, or_false] at hb
    rcases hb with rfl | rfl
    · exact hID q
    · exact hPD q
  · rintro m h' tk ⟨Fh, ρc, LAh, ek⟩
    exact ⟨rfl, h', tk, m, ρc, rfl, Fh, LAh, ek⟩
end
end Mine

-- FhRet
theorem Mine.anewFhRet : True := by (w_top off); exact trivial
namespace Mine
open PySem PySem.W PyProof.Rows PySem.Calls
local macro_rules | `(tactic| walk_at "MINE step") => `(tactic| first | (k_unfold; (try dsimp only)) | (k_end; wrow_close) | walk1 | (dsimp only; walk1) | (leave1; walk_say "STEP leave1"; try dsimp only) | fail "no step")
local macro_rules | `(tactic| k_all) => `(tactic| assumption)

/-- what stands apart from the cache and from the plain list by its kind -/
def inertB : Data → Bool
  | .cell _ => true
  | .func _ => true
  | .fields _ => true
  | _ => false
abbrev inertOf (news : List (Addr × Obj)) : List (Addr × Obj) := news.filter fun q => inertB q.2.data
theorem inert_mem {news : List (Addr × Obj)} {a : Addr} {o : Obj} (h : (a, o) ∈ news) (d : inertB o.data = true) : (a, o) ∈ inertOf news := List.mem_filter.mpr ⟨h, d⟩
theorem inert_cell {o : Obj} {v : Option Value} (h : o.data = .cell v) : inertB o.data = true := by rw [h]; rfl
theorem inert_fields {o : Obj} {vs : Array Value} (h : o.data = .fields vs) : inertB o.data = true := by rw [h]; rfl

section
variable {w : World} {A₀ A : Around} {s : Shared} {base h₀ h : Heap} {outer : List Env} {L : Addr} {m mg mb : Str → Option Value} {loose : List Str} {mean : ExcName → Option Value} {p : Program} {env : Env}
  {ρ ρc ρp : List Row} {as : List Addr} {P fD fW fE l fa : Addr} {cl : List (Str × Addr)} {consts consts' news : List (Addr × Obj)} {D : KD} {vs : List Value} {ns : List Int} {qual : Str} {cdv : Value} {E : Value → Shared → Prop}

theorem dict_data {o : Obj} {kvs : List (Int × Value)} (x : o.IsDictOf (intKind PySem.Challenge.rw_fh5009_01.row.prog w) kvs) : ∃ es n, o.data = .dict es n := by
  obtain ⟨es, ep, _, h, _⟩ := x
  exact ⟨_, _, h⟩

theorem start_law {h1 h2 h3 h4 h5 : Int} {t1 t2 t3 t4 t5 : Tok} {size chop : Int} {ts tc tn : Tok} {kx kd cd ud P : Addr} {oc ou : Obj} {n : Nat} (N : News h₀ L h news)
    (m1 : (kx, instObj 67 kd) ∈ news)
    (m2 : (kd, dictOf [⟨h1, .str (Str.ofString "_Cache__maxSize") t1, .int size ts⟩, ⟨h2, .str (Str.ofString "_Cache__size") t2, .int 0 tn⟩, ⟨h3, .str (Str.ofString "_Cache__chopSize") t3, .int chop tc⟩,
      ⟨h4, .str (Str.ofString "_Cache__cache") t4, .ref cd⟩, ⟨h5, .str (Str.ofString "_Cache__usage") t5, .ref ud⟩] 5) ∈ news)
    (m3 : (cd, oc) ∈ news) (m4 : (ud, ou) ∈ news) (m5 : (P, PySem.W.listOf #[] n) ∈ news)
    (hc : oc.IsDictOf (intKind PySem.Challenge.rw_fh5009_01.row.prog w) []) (hu : ou.IsDictOf (intKind PySem.Challenge.rw_fh5009_01.row.prog w) [])
    (o1 : @LT.lt Nat _ kd kx) (o2 : @LT.lt Nat _ kx cd) (o3 : @LT.lt Nat _ cd ud) (l1 : (cd == sysModules) = false) (l2 : (ud == sysModules) = false) :
    ∃ D : KD, D.size = size ∧ D.chop = chop ∧ D.kx = kx ∧ D.Ok ∧ LawAt w h₀ L h (inertOf news) D P [] [] [] := by
  obtain ⟨ec, nc, dc⟩ := dict_data hc
  obtain ⟨eu, nu, du⟩ := dict_data hu
  have e1 := (N _ m1).1
  have e2 := (N _ m2).1
  have e3 := (N _ m3).1
  have e4 := (N _ m4).1
  have e5 := (N _ m5).1
  have same : ∀ {a : Addr} {o o' : Obj}, h.get? a = some o → h.get? a = some o' → o.data = o'.data := fun x y => by rw [x] at y; rw [Option.some.inj y]
  have off : ∀ {q : Addr × Obj} {a : Addr} {o : Obj}, q ∈ inertOf news → h.get? a = some o → inertB o.data = false → q.1 ≠ a := fun {q a o} hq ha hd e => by
    obtain ⟨hm, hi⟩ := List.mem_filter.mp hq
    have := same (e ▸ (N q hm).1) ha
    rw [this, hd] at hi
    cases hi
  refine ⟨⟨h1, h2, h3, h4, h5, t1, t2, t3, t4, t5, size, ts, chop, tc, kx, kd, cd, ud⟩, rfl, rfl, rfl, ⟨o1, o2, o3, l1, l2⟩, ⟨e1, ⟨tn, e2⟩, ⟨oc, [], e3, hc, ?_⟩, ⟨ou, [], e4, hu, ?_⟩, ?_⟩, ⟨⟨n, e5⟩, rfl, ?_, ?_, ?_⟩, fun q hq => N q (List.mem_filter.mp hq).1, ?_, ?_, ?_, ?_, ?_⟩
  · exact .nil
  · exact .nil
  · exact List.nodup_nil
  · intro i a r hi; simp at hi
  · exact List.nodup_nil
  · simp
  · intro a ha
    simp only [KD.adr, List.mem_cons, List.not_mem_nil, or_false] at ha
    rcases ha with rfl | rfl | rfl | rfl
    · exact (N _ m1).2
    · exact (N _ m2).2
    · exact (N _ m3).2
    · exact (N _ m4).2
  · intro a ha
    rw [List.mem_singleton.mp ha]
    exact (N _ m5).2
  · intro q hq ha
    simp only [KD.adr, List.mem_cons, List.not_mem_nil, or_false] at ha
    rcases ha with ha | ha | ha | ha
    · exact off hq e1 rfl ha
    · exact off hq e2 rfl ha
    · exact off hq e3 (by rw [dc]; rfl) ha
    · exact off hq e4 (by rw [du]; rfl) ha
  · intro q hq ha
    exact off hq e5 rfl (List.mem_singleton.mp ha)
  · intro a ha hP
    rw [List.mem_singleton.mp hP] at ha
    simp only [KD.adr, List.mem_cons, List.not_mem_nil, or_false] at ha
    rcases ha with ha | ha | ha | ha
    · have := same (ha ▸ e5) e1; cases this
    · have := same (ha ▸ e5) e2; cases this
    · have := same (ha ▸ e5) e3; rw [dc] at this; cases this
    · have := same (ha ▸ e5) e4; rw [du] at this; cases this

theorem ret_run (C : Ctx w callerA (callerA.deeper (lawEnv qual L fa cdv cl)) h₀ h₀ [] L mg mb loose mean p (lawEnv qual L fa cdv cl) cl consts D P fD fW fE l vs ns) (F : Fr h₀ L s.heap m)
    (LA : LawAt w h₀ L s.heap consts D P as ρc ρ) (hlen : ρc.length = ρ.length) (hsz : (ρ.length : Int) ≤ 21) :
    wpAny (model PySem.Challenge.rw_fh5009_01.row.prog w) (callerA.deeper (lawEnv qual L fa cdv cl)) (exec (nth (fnBody lawDef) 8) (lawEnv qual L fa cdv cl))
      (fun f s' => ∃ h' tk, f = .ret (.bool true) ∧ s' = { s with heap := h', toks := tk } ∧ Fr h₀ L h' m ∧ News h₀ L h' consts) E s := by
  obtain ⟨B, X₀, T, hA, hroom, hh, hl, hi, hlen', ok, sz0, sz1, ch0, ch1, cS, ⟨cK, oK, hcK, hcKm, hcKd⟩, cP, oP, hcP, hcPm, hcPd, _⟩ := C
  obtain ⟨b, eb⟩ : ∃ b, b = nth (fnBody lawDef) 8 := ⟨_, rfl⟩
  rw [← eb]
  conv at eb => rhs; whnf
  subst eb
  unfold lawEnv
  obtain ⟨sc, es⟩ : ∃ b, b = fnScope lawDef := ⟨_, rfl⟩
  rw [← es]
  conv at es => rhs; whnf
  subst es
  revert X₀; k_fill; intro X₀
  have N := LA.news
  iterate 6 walk_at "MINE step"
  refine nameX_C N hcK hcKm hcKd ?_ rfl (by kernel_rfl) (by kernel_rfl)
  iterate 1 walk_at "MINE step"
  refine keep_len LA.cache LA.offD B F X₀ T hA rfl rfl (Nat.lt_of_le_of_lt (Nat.le_add_right _ 3) hroom) (by omega) ?_
  intro h₁ tk₁ t₁ old₁
  have F₁ := F.keeps old₁
  have LA₁ := LA.butL (Old.butL old₁)
  have N₁ := LA₁.news
  iterate 4 walk_at "MINE step"
  refine nameX_C N₁ hcP hcPm hcPd ?_ rfl (by kernel_rfl) (by kernel_rfl)
  iterate 1 walk_at "MINE step"
  have hpsz : ((as.map Value.ref).toArray.size : Int) = (ρc.length : Int) := by simp [LA₁.plain.len, hlen]
  refine' Calls.call_len_list (items := (as.map Value.ref).toArray) ?c1 ?c2 ?c3
  case c1 => exact LA₁.plain.list.isList
  case c2 => omega
  rw [hpsz]
  refine eq_int ?_
  rw [show ((ρc.length : Int) == (ρc.length : Int)) = true by simp]
  exact ⟨h₁, _, rfl, rfl, F₁, N₁⟩
theorem body_run (C : Ctx w callerA (callerA.deeper (lawEnv qual L fa cdv cl)) h₀ h₀ [] L mg mb loose mean p (lawEnv qual L fa cdv cl) cl consts D P fD fW fE l vs ns) (F : Fr h₀ L s.heap m) (lm : LM D fD fW fE m)
    (LA : LawAt w h₀ L s.heap consts D P [] [] []) :
    wpAny (model PySem.Challenge.rw_fh5009_01.row.prog w) (callerA.deeper (lawEnv qual L fa cdv cl)) (execs ((fnBody lawDef).drop 6) (lawEnv qual L fa cdv cl))
      (fun f s' => f = .ret (.bool true) ∧ ∃ h' tk m', s' = { s with heap := h', toks := tk } ∧ Fr h₀ L h' m' ∧ News h₀ L h' consts) (fun _ _ => False) s := by
  have e : (fnBody lawDef).drop 6 = [nth (fnBody lawDef) 6, nth (fnBody lawDef) 7, nth (fnBody lawDef) 8] := by kernel_rfl
  rw [e]
  have bd : Bnd D [] := ⟨by have := C.sz0; simp; omega, fun k hk => absurd hk (by simp [keysOf])⟩
  refine wpAny_execs_cons (wpAny_mono (for_main C F lm LA bd) (fun f s' hf => ?_) fun _ _ e => e)
  obtain ⟨rfl, h₁, tk₁, m₁, as₁, ρ₁, rfl, F₁, lm₁, LA₁, bd₁⟩ := hf
  dsimp only
  refine wpAny_execs_cons (wpAny_mono (for_last (s := { s with heap := h₁, toks := tk₁ }) C F₁ LA₁ bd₁) (fun f s' hf => ?_) fun _ _ e => e)
  obtain ⟨rfl, h₂, tk₂, m₂, ρ₂, rfl, F₂, LA₂, ek⟩ := hf
  dsimp only
  have hlen : ρ₂.length = ρ₁.length := by rw [← length_kv ρ₂, ek, length_kv]
  refine wpAny_execs_cons (wpAny_mono (ret_run (s := { s with heap := h₂, toks := tk₂ }) C F₂ LA₂ hlen (by have := bd₁.1; have := C.sz1; omega)) (fun f s' hf => ?_) fun _ _ e => e)
  obtain ⟨h₃, tk₃, rfl, rfl, F₃, N₃⟩ := hf
  exact ⟨rfl, h₃, tk₃, m₂, rfl, F₃, N₃⟩
end
end Mine

-- FhPro
theorem Mine.anewFhPro : True := by (w_top off); exact trivial
local macro_rules | `(tactic| walk_at "MINE step") => `(tactic| first | (k_unfold; (try dsimp only)) | (k_end; wrow_close) | walk1 | (dsimp only; walk1) | (leave1; walk_say "STEP leave1"; try dsimp only) | fail "no step")
namespace Mine
theorem cutI {M : Model} {A : Around} {m : Sem Value} {s : Shared} {Q : Value → Shared → Prop} {E : Value → Shared → Prop} {ch : Int} (h1 : ∀ Q' : Value → Shared → Prop, (∀ t tk, Q' (.int ch t) { s with toks := tk }) → wpAny M A m Q' E s)
    (h2 : ∀ t tk, Q (.int ch t) { s with toks := tk }) : wpAny M A m Q E s := h1 Q h2
theorem chop_facts {sz chop : Int} (h : sz ∈ [1, 2, 3, 5, 9, 10, 20, (21 : Int)]) (hc : chop = if sz.fdiv 10 = 0 then 1 else sz.fdiv 10) : 1 ≤ sz ∧ sz ≤ 21 ∧ 1 ≤ chop ∧ chop ≤ sz ∧ (if 1 > sz.fdiv 10 then 1 else sz.fdiv 10) = chop := by
  subst hc
  simp only [List.mem_cons, List.not_mem_nil, or_false] at h
  rcases h with rfl | rfl | rfl | rfl | rfl | rfl | rfl | rfl <;> decide
theorem menu {i : Int} (h0 : 0 ≤ i) (h1 : i < 8) (a b c d e f g h : Tok) : ∃ sz t, (#[Value.int 1 a, .int 2 b, .int 3 c, .int 5 d, .int 9 e, .int 10 f, .int 20 g, .int 21 h] : Array Value)[i.toNat]? = some (.int sz t) ∧ sz ∈ [1, 2, 3, 5, 9, 10, 20, (21 : Int)] := by
  obtain ⟨n, rfl⟩ := Int.eq_ofNat_of_zero_le h0
  have hn : n < 8 := by omega
  match n, hn with
  | 0, _ => exact ⟨_, _, rfl, by decide⟩
  | 1, _ => exact ⟨_, _, rfl, by decide⟩
  | 2, _ => exact ⟨_, _, rfl, by decide⟩
  | 3, _ => exact ⟨_, _, rfl, by decide⟩
  | 4, _ => exact ⟨_, _, rfl, by decide⟩
  | 5, _ => exact ⟨_, _, rfl, by decide⟩
  | 6, _ => exact ⟨_, _, rfl, by decide⟩
  | 7, _ => exact ⟨_, _, rfl, by decide⟩
end Mine
namespace Mine
open PySem.Calls
theorem whole : PySem.Challenge.rw_fh5009_01.Holds := Mine.hd (by
  k_go0; (all_goals try k_fold)
  rename_i h₁ tk₁ oP oC oK oS dP dC dK dS X0 X' T' B F N l0
  rename IntsAre _ _ => hI
  have hS : oS.data = .cell (some _) := dS
  have hl0 := lifted
  have hB0 := B
  iterate 32 walk_at "MINE step"
  rename Fr _ _ _ _ => F₂
  rename News _ _ _ _ => N₂
  rename _ = Data.fields _ => d1
  rename _ = some (Value.str _ _) => d2
  refine ⟨FnAt.of N₂ (.tail _ (.head _)), ?_⟩
  refine draw_run lifted hI (by omega) B F₂ X' T' rfl rfl rfl (by simp only [depth_deeper]; decide) rfl (N₂ _ (.tail _ (.head _))).1 rfl (codeRec_news N₂ (.tail _ (.tail _ (.head _))) d1 d2) (fun q hq => N₂ q (by rw [List.mem_singleton.mp hq]; exact .tail _ (.tail _ (.tail _ (.tail _ (.tail _ (.tail _ (.head _)))))))) hS ?_
  intro h₃ tk₃ v₃ t₃ old₃
  have F₃ := F₂.keeps old₃
  have N₃ := N₂.grown old₃
  clear F₂ N₂
  iterate 1 walk_at "MINE step"
  refine mod_int' (by decide) ?_
  have b0 : 0 ≤ v₃.fmod 8 := Int.fmod_nonneg_of_pos _ (by decide)
  have b1 : v₃.fmod 8 < 8 := Int.fmod_lt_of_pos _ (by decide)
  generalize v₃.fmod 8 = ix at b0 b1 ⊢
  obtain ⟨sz, tsz, hsz, hm⟩ := Mine.menu b0 b1 _ _ _ _ _ _ _ _
  obtain ⟨chop, hch⟩ : ∃ c : Int, c = if sz.fdiv 10 = 0 then 1 else sz.fdiv 10 := ⟨_, rfl⟩
  obtain ⟨z1, z2, c1, c2, z3⟩ := Mine.chop_facts hm hch
  have hml := (N₃ _ (.head _)).1
  refine tail_any (T := "list") ⟨_, hml, rfl⟩ slot_list_getitem.lookup (wpAny_getItem_list ⟨_, hml, rfl, _, rfl⟩ b0 (by omega) hsz ?_) (by with_unfolding_all rfl)
  clear hml hsz
  iterate 33 walk_at "MINE step"
  refine Mine.cutI (ch := chop) (fun Q' hQ' => ?_) (fun tch tk₅ => ?_)
  · iterate 5 walk_at "MINE step"
    iterate 1 walk_at "MINE step"
    by_cases hz : sz.fdiv 10 = 0
    · rw [hch, if_pos hz] at hQ'
      rw [if_neg (by simp [hz])]
      iterate 1 walk_at "MINE step"
      rw [if_neg (by simp [hz])]
      iterate 2 walk_at "MINE step"
      exact hQ' _ _
    · rw [hch, if_neg hz] at hQ'
      rw [if_pos (by simpa using hz)]
      iterate 5 walk_at "MINE step"
      rw [if_pos (by simpa using hz)]
      exact hQ' _ _
  · iterate 36 walk_at "MINE step"
    rename Fr _ _ _ _ => F₆
    rename News _ _ _ _ => N₆
    refine max_two_N rfl F₆ N₆ ?_
    intro h₇ tk₇ F₇ N₇
    clear F₆ N₆
    rw [z3]
    iterate 17 walk_at "MINE step"
    rename Fr _ _ _ _ => F₉
    rename News _ _ _ _ => N₉
    obtain ⟨D, eS, eC, eK, ok, LA⟩ := Mine.start_law N₉ (.tail _ (.tail _ (.tail _ (.tail _ (.tail _ (.tail _ (.tail _ (.tail _ (.head _))))))))) (.tail _ (.tail _ (.tail _ (.tail _ (.tail _ (.tail _ (.tail _ (.tail _ (.tail _ (.head _)))))))))) (.tail _ (.tail _ (.tail _ (.tail _ (.tail _ (.tail _ (.tail _ (.head _)))))))) (.tail _ (.tail _ (.tail _ (.tail _ (.tail _ (.tail _ (.head _))))))) (.tail _ (.tail _ (.tail _ (.tail _ (.tail _ (.head _)))))) (by assumption) (by assumption) (by omega) (by omega) (by omega) (by assumption) (by assumption)
    have hd : ∀ e : Env, (callerA.deeper e).depth + 3 < recursionLimit := fun e => by simp only [depth_deeper]; decide
    dsimp only
    refine' wpAny_mono (Mine.body_run (D := D) (qual := Str.ofString "law") (cdv := .ref 82) (cl := cellsFrom (_ + 1) (Mine.fnScope Mine.lawDef).names []) ?C F₉ ?lm LA) ?hq ?he
    case lm => exact ⟨⟨_, by rw [eS]; rfl⟩, rfl, rfl, rfl⟩
    case C =>
      refine' Mine.Ctx.mk hB0 X' T' rfl (hd _) rfl hl0 hI (by omega) ok (by omega) (by omega) (by omega) (by omega) ?cS ?cK ?cP
      case cS => exact ⟨_, _, by kernel_rfl, Mine.inert_mem (.tail _ (.tail _ (.tail _ (.tail _ (.tail _ (.tail _ (.tail _ (.tail _ (.tail _ (.tail _ (.tail _ (.tail _ (.tail _ (.tail _ (.tail _ (.tail _ (.head _))))))))))))))))) (by rw [hS]; rfl), hS, _, _, _, _, _, _, _, _, _, _, _, Mine.inert_mem (.tail _ (.tail _ (.tail _ (.tail _ (.tail _ (.tail _ (.tail _ (.tail _ (.tail _ (.tail _ (.tail _ (.head _)))))))))))) rfl, rfl, Mine.inert_mem (.tail _ (.tail _ (.tail _ (.tail _ (.tail _ (.tail _ (.tail _ (.tail _ (.tail _ (.tail _ (.tail _ (.tail _ (.head _))))))))))))) (by rw [d1]; rfl), d1, d2⟩
      case cK =>
        rw [eK]
        exact ⟨_, _, by kernel_rfl, Mine.inert_mem (.tail _ (.tail _ (.tail _ (.tail _ (.tail _ (.tail _ (.tail _ (.tail _ (.tail _ (.tail _ (.tail _ (.tail _ (.tail _ (.tail _ (.tail _ (.head _)))))))))))))))) (Mine.inert_cell (by assumption)), by assumption⟩
      case cP =>
        rw [eC]
        exact ⟨_, _, by kernel_rfl, Mine.inert_mem (.tail _ (.tail _ (.tail _ (.tail _ (.tail _ (.tail _ (.tail _ (.tail _ (.tail _ (.tail _ (.tail _ (.tail _ (.tail _ (.head _)))))))))))))) (Mine.inert_cell (by assumption)), by assumption,
          ⟨_, _, _, _, _, _, _, _, _, _, _, Mine.inert_mem (.tail _ (.tail _ (.head _))) rfl, rfl, Mine.inert_mem (.tail _ (.tail _ (.tail _ (.head _)))) (Mine.inert_fields (by assumption)), by assumption, by assumption⟩,
          _, _, _, Mine.inert_mem (.tail _ (.tail _ (.tail _ (.tail _ (.tail _ (.tail _ (.tail _ (.tail _ (.tail _ (.tail _ (.tail _ (.tail _ (.tail _ (.tail _ (.head _))))))))))))))) (Mine.inert_cell (by assumption)), by assumption,
          ⟨_, _, _, _, _, _, _, _, _, _, _, Mine.inert_mem (.head _) rfl, rfl, Mine.inert_mem (.tail _ (.head _)) (Mine.inert_fields (by assumption)), by assumption, by assumption⟩⟩
    case he => exact fun _ _ e => e.elim
    case hq =>
      intro f s' hf
      obtain ⟨rfl, h₁₀, tk₁₀, m₁₀, rfl, F₁₀, N₁₀⟩ := hf
      have hT := N₁₀ _ (Mine.inert_mem (.tail _ (.tail _ (.tail _ (.tail _ (.tail _ (.tail _ (.tail _ (.tail _ (.tail _ (.tail _ (.tail _ (.tail _ (.tail _ (.tail _ (.tail _ (.tail _ (.tail _ (.head _)))))))))))))))))) rfl)
      have NT : News _ _ h₁₀ [_] := fun q hq => by rw [List.mem_singleton.mp hq]; exact hT
      clear N₉ N₁₀ hT LA
      dsimp only
      refine ⟨?_, GrownAt.of NT (.head _), trivial⟩
      walk_at "MINE step")
end Mine

theorem PySem.Challenge.cw_fh5009_01_holds : PySem.Challenge.rw_fh5009_01.Holds :=
  Mine.whole
