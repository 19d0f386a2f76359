import PyProof.Rows.All
import Wide.All
import OpenK.AllK
import Wide.FinOn
import PySem.Challenge.RW_tv0007_01
set_option Elab.async false
section
open PySem PySem.W PyProof.Rows
set_option Elab.async false
set_option maxRecDepth 100000
set_option maxHeartbeats 8000000
namespace Mine
open_top hd for PySem.Challenge.rw_tv0007_01
end Mine
end
section
namespace Mine.Lex
theorem offLex : True := by
  w_top off
  exact True.intro
/-- all differences from the kept ones are let -/
def ok (P : Nat → Bool) (kept : List Nat) (x : Nat) : Bool := kept.all fun o => P (o ^^^ x)
def step (P : Nat → Bool) (kept : List Nat) (x : Nat) : List Nat := if ok P kept x then kept ++ [x] else kept
def greedy (P : Nat → Bool) (row : List Nat) : List Nat := row.foldl (step P) []
def grow (P : Nat → Bool) (s : List Nat × List Nat) (c : Nat) : List Nat × List Nat :=
  let new := s.1.map (· ^^^ c)
  (s.1 ++ new, match new.filter (ok P s.2) with
    | [] => s.2
    | g :: _ => s.2 ++ s.2.map (g ^^^ ·))
theorem ok_false {P : Nat → Bool} {kept : List Nat} {x : Nat} : ok P kept x = false ↔ ∃ o ∈ kept, P (o ^^^ x) = false := by
  simp [ok]
theorem ok_true {P : Nat → Bool} {kept : List Nat} {x : Nat} : ok P kept x = true ↔ ∀ o ∈ kept, P (o ^^^ x) = true := by
  simp [ok]
theorem ok_perm {P : Nat → Bool} {k k' : List Nat} (h : ∀ x, x ∈ k ↔ x ∈ k') (x : Nat) : ok P k x = ok P k' x := by
  rw [Bool.eq_iff_iff, ok_true, ok_true]
  exact ⟨fun a o ho => a o ((h o).mpr ho), fun a o ho => a o ((h o).mp ho)⟩
theorem xor_cancel (a b : Nat) : a ^^^ b ^^^ b = a := by rw [Nat.xor_assoc, Nat.xor_self, Nat.xor_zero]
theorem xor_cancel_left (a b : Nat) : a ^^^ (a ^^^ b) = b := by rw [← Nat.xor_assoc, Nat.xor_self, Nat.zero_xor]
theorem xor_eq_zero {a b : Nat} : a ^^^ b = 0 ↔ a = b :=
  ⟨fun h => by have := xor_cancel a b; rw [h, Nat.zero_xor] at this; exact this.symm, fun h => by rw [h, Nat.xor_self]⟩
theorem xor_inj {a b c : Nat} (h : a ^^^ c = b ^^^ c) : a = b := by
  have := congrArg (· ^^^ c) h
  simpa [xor_cancel] using this
/-- what greedy choice keeps along a row (by its last item) -/
structure Kept (P : Nat → Bool) (row kept : List Nat) : Prop where
  sub : ∀ x ∈ kept, x ∈ row
  nd : kept.Nodup
  apart : ∀ x ∈ kept, ∀ y ∈ kept, x ≠ y → P (x ^^^ y) = true
  out : ∀ v ∈ row, v ∉ kept → ∃ k ∈ kept, row.idxOf k < row.idxOf v ∧ P (k ^^^ v) = false
theorem idxOf_append_mem {l r : List Nat} {x : Nat} (h : x ∈ l) : (l ++ r).idxOf x = l.idxOf x := by
  rw [List.idxOf_append]; simp [h]
theorem idxOf_append_not {l r : List Nat} {x : Nat} (h : x ∉ l) : (l ++ r).idxOf x = r.idxOf x + l.length := by
  rw [List.idxOf_append]; simp [h]
theorem greedy_snoc (P : Nat → Bool) (row : List Nat) (x : Nat) : greedy P (row ++ [x]) = step P (greedy P row) x := by
  simp [greedy, List.foldl_append]
theorem kept_step {P : Nat → Bool} (h0 : P 0 = false) {row kept : List Nat} (K : Kept P row kept) (x : Nat) : Kept P (row ++ [x]) (step P kept x) := by
  have ix : ∀ v ∈ row, (row ++ [x]).idxOf v = row.idxOf v := fun v hv => idxOf_append_mem hv
  have up : ∀ v ∈ row, v ∉ kept → ∃ k ∈ kept, (row ++ [x]).idxOf k < (row ++ [x]).idxOf v ∧ P (k ^^^ v) = false := fun v hv hn => by
    obtain ⟨k, hk, hlt, hp⟩ := K.out v hv hn
    exact ⟨k, hk, by rw [ix k (K.sub k hk), ix v hv]; exact hlt, hp⟩
  unfold step
  cases hok : ok P kept x with
  | false =>
    rw [if_neg (by simp)]
    refine ⟨fun y hy => List.mem_append_left _ (K.sub y hy), K.nd, K.apart, fun v hv hn => ?_⟩
    rcases List.mem_append.mp hv with hv | hv
    · exact up v hv hn
    · have hv := List.mem_singleton.mp hv
      subst hv
      by_cases hr : v ∈ row
      · exact up v hr hn
      · obtain ⟨o, ho, hp⟩ := ok_false.mp hok
        refine ⟨o, ho, ?_, hp⟩
        rw [ix o (K.sub o ho), idxOf_append_not hr]
        exact Nat.lt_of_lt_of_le (List.idxOf_lt_length_iff.mpr (K.sub o ho)) (Nat.le_add_left _ _)
  | true =>
    rw [if_pos rfl]
    have hk := ok_true.mp hok
    have hx : x ∉ kept := fun hx => by
      have := hk x hx
      rw [Nat.xor_self, h0] at this
      cases this
    have hxr : x ∉ row := fun hr => by
      obtain ⟨k, hkk, _, hp⟩ := K.out x hr hx
      rw [hk k hkk] at hp; cases hp
    refine ⟨fun y hy => ?_, ?_, fun a ha b hb hne => ?_, fun v hv hn => ?_⟩
    · rcases List.mem_append.mp hy with hy | hy
      · exact List.mem_append_left _ (K.sub y hy)
      · exact List.mem_append_right _ hy
    · rw [List.nodup_append]
      refine ⟨K.nd, by simp, fun a ha b hb => ?_⟩
      rw [List.mem_singleton.mp hb]
      exact fun e => hx (e ▸ ha)
    · rcases List.mem_append.mp ha with ha | ha <;> rcases List.mem_append.mp hb with hb | hb
      · exact K.apart a ha b hb hne
      · rw [List.mem_singleton.mp hb]; exact hk a ha
      · rw [List.mem_singleton.mp ha, Nat.xor_comm]; exact hk b hb
      · exact absurd ((List.mem_singleton.mp ha).trans (List.mem_singleton.mp hb).symm) hne
    · have hn1 : v ∉ kept := fun q => hn (List.mem_append_left _ q)
      rcases List.mem_append.mp hv with hv | hv
      · obtain ⟨k, a, b, c⟩ := up v hv hn1
        exact ⟨k, List.mem_append_left _ a, b, c⟩
      · exact absurd (List.mem_append_right _ hv) hn
theorem kept_greedy {P : Nat → Bool} (h0 : P 0 = false) (row : List Nat) : Kept P row (greedy P row) := by
  suffices h : ∀ n (row : List Nat), row.length = n → Kept P row (greedy P row) from h _ row rfl
  intro n
  induction n with
  | zero =>
    intro row hr
    have : row = [] := List.eq_nil_of_length_eq_zero hr
    subst this
    exact ⟨(fun _ h => nomatch h), .nil, (fun _ h => nomatch h), (fun _ h => nomatch h)⟩
  | succ n ih =>
    intro row hr
    have hne : row ≠ [] := fun e => by rw [e] at hr; cases hr
    have e := List.dropLast_concat_getLast hne
    have hl : row.dropLast.length = n := by rw [List.length_dropLast, hr]; rfl
    rw [← e, greedy_snoc]
    exact kept_step h0 (ih _ hl) _
/-- the order of the row, told by what one exclusive or does to the places -/
def Ord (row : List Nat) : Prop := ∀ z₁ ∈ row, ∀ z₂ ∈ row, ∀ w ∈ row, w ≠ 0 →
  (row.idxOf (z₁ ^^^ z₂ ^^^ w) < row.idxOf (z₁ ^^^ z₂) ↔ ¬ (row.idxOf (z₁ ^^^ w) < row.idxOf z₁ ↔ row.idxOf (z₂ ^^^ w) < row.idxOf z₂))
structure Inv (P : Nat → Bool) (row code : List Nat) : Prop where
  zero : 0 ∈ row
  closed : ∀ a ∈ row, ∀ b ∈ row, a ^^^ b ∈ row
  ord : Ord row
  kclosed : ∀ a ∈ greedy P row, ∀ b ∈ greedy P row, a ^^^ b ∈ greedy P row
  kzero : 0 ∈ greedy P row
  perm : code.Perm (greedy P row)
theorem foldl_none {P : Nat → Bool} : ∀ {l kept : List Nat}, (∀ x ∈ l, ok P kept x = false) → l.foldl (step P) kept = kept
  | [], _, _ => rfl
  | x :: l, kept, h => by
    have hx : step P kept x = kept := by unfold step; rw [h x List.mem_cons_self]; rfl
    rw [List.foldl_cons, hx]
    exact foldl_none fun y hy => h y (List.mem_cons_of_mem _ hy)
theorem greedy_append (P : Nat → Bool) (r l : List Nat) : greedy P (r ++ l) = l.foldl (step P) (greedy P r) := by simp [greedy, List.foldl_append]
theorem idxOf_map_xor {row : List Nat} {c v : Nat} : (row.map (· ^^^ c)).idxOf (v ^^^ c) = row.idxOf v := by
  induction row with
  | nil => rfl
  | cons a r ih =>
    rw [List.map_cons, List.idxOf_cons, List.idxOf_cons, ih]
    by_cases h : a = v
    · subst h; simp
    · have h' : a ^^^ c ≠ v ^^^ c := fun e => h (xor_inj e)
      rw [beq_eq_false_iff_ne.mpr h, beq_eq_false_iff_ne.mpr h']
theorem mem_map_xor {row : List Nat} {c v : Nat} : v ∈ row.map (· ^^^ c) ↔ v ^^^ c ∈ row := by
  rw [List.mem_map]
  constructor
  · rintro ⟨a, ha, rfl⟩; rw [xor_cancel]; exact ha
  · intro h; exact ⟨v ^^^ c, h, xor_cancel v c⟩
section
variable {P : Nat → Bool} {row code : List Nat} {c : Nat}
/-- a cell that brings nothing new -/
theorem inv_old (h0 : P 0 = false) (I : Inv P row code) (hc : c ∈ row) : Inv P (grow P (row, code) c).1 (grow P (row, code) c).2 := by
  have K := kept_greedy h0 row
  have hin : ∀ v ∈ row.map (· ^^^ c), v ∈ row := fun v hv => by
    have := mem_map_xor.mp hv
    have := I.closed _ this _ hc
    rwa [xor_cancel] at this
  have hno : ∀ v ∈ row.map (· ^^^ c), ok P (greedy P row) v = false := fun v hv => by
    by_cases hk : v ∈ greedy P row
    · exact ok_false.mpr ⟨v, hk, by rw [Nat.xor_self]; exact h0⟩
    · obtain ⟨k, hk', _, hp⟩ := K.out v (hin v hv) hk
      exact ok_false.mpr ⟨k, hk', hp⟩
  have hfil : (row.map (· ^^^ c)).filter (ok P code) = [] := by
    rw [List.filter_eq_nil_iff]
    intro v hv
    rw [ok_perm (fun x => I.perm.mem_iff) v, hno v hv]
    simp
  have e1 : (grow P (row, code) c).1 = row ++ row.map (· ^^^ c) := rfl
  have e2 : (grow P (row, code) c).2 = code := by
    show (match (row.map (· ^^^ c)).filter (ok P code) with | [] => code | g :: _ => code ++ code.map (g ^^^ ·)) = code
    rw [hfil]
  have eg : greedy P (row ++ row.map (· ^^^ c)) = greedy P row := by rw [greedy_append]; exact foldl_none hno
  have hm : ∀ v, v ∈ row ++ row.map (· ^^^ c) ↔ v ∈ row := fun v => by
    rw [List.mem_append]
    exact ⟨fun h => h.elim id (hin v), .inl⟩
  rw [e1, e2]
  refine ⟨(hm _).mpr I.zero, fun a ha b hb => (hm _).mpr (I.closed a ((hm a).mp ha) b ((hm b).mp hb)), fun z₁ h₁ z₂ h₂ w hw hw0 => ?_, ?_, ?_, ?_⟩
  · have h₁ := (hm _).mp h₁
    have h₂ := (hm _).mp h₂
    have hw := (hm _).mp hw
    have h12 := I.closed _ h₁ _ h₂
    rw [idxOf_append_mem (I.closed _ h12 _ hw), idxOf_append_mem h12, idxOf_append_mem (I.closed _ h₁ _ hw), idxOf_append_mem h₁, idxOf_append_mem (I.closed _ h₂ _ hw), idxOf_append_mem h₂]
    exact I.ord z₁ h₁ z₂ h₂ w hw hw0
  · rw [eg]; exact I.kclosed
  · rw [eg]; exact I.kzero
  · rw [eg]; exact I.perm
end
theorem filter_head {p : Nat → Bool} {g : Nat} {t : List Nat} : ∀ {l : List Nat}, l.filter p = g :: t → (g ∈ l ∧ p g = true) ∧ ∀ x ∈ l, p x = true → l.idxOf g ≤ l.idxOf x
  | [], h => nomatch h
  | a :: r, h => by
    by_cases ha : p a = true
    · rw [List.filter_cons_of_pos ha] at h
      injection h with h1 h2
      subst h1
      refine ⟨⟨List.mem_cons_self, ha⟩, fun x _ _ => ?_⟩
      rw [List.idxOf_cons]; simp
    · rw [List.filter_cons_of_neg ha] at h
      obtain ⟨⟨hg, hpg⟩, hle⟩ := filter_head h
      refine ⟨⟨List.mem_cons_of_mem _ hg, hpg⟩, fun x hx hp => ?_⟩
      have hga : a ≠ g := fun e => ha (e ▸ hpg)
      have hxa : a ≠ x := fun e => ha (e ▸ hp)
      rcases List.mem_cons.mp hx with rfl | hx
      · exact absurd hp ha
      rw [List.idxOf_cons, List.idxOf_cons, beq_eq_false_iff_ne.mpr hga, beq_eq_false_iff_ne.mpr hxa]
      exact Nat.succ_le_succ (hle x hx hp)
theorem xr (a b c : Nat) : a ^^^ b ^^^ c = a ^^^ c ^^^ b := by rw [Nat.xor_assoc, Nat.xor_comm b c, ← Nat.xor_assoc]
section
variable {P : Nat → Bool} {row code : List Nat} {c : Nat}
theorem new_not (cl : ∀ a ∈ row, ∀ b ∈ row, a ^^^ b ∈ row) (hc : c ∉ row) {z : Nat} (h : z ^^^ c ∈ row) : z ∉ row := fun hz => hc (by
  have := cl _ hz _ h
  rwa [xor_cancel_left] at this)
theorem ord_new (cl : ∀ a ∈ row, ∀ b ∈ row, a ^^^ b ∈ row) (O : Ord row) (hc : c ∉ row) : Ord (row ++ row.map (· ^^^ c)) := by
  have io : ∀ z, z ∈ row → (row ++ row.map (· ^^^ c)).idxOf z = row.idxOf z := fun z hz => idxOf_append_mem hz
  have iN : ∀ z, z ^^^ c ∈ row → (row ++ row.map (· ^^^ c)).idxOf z = row.idxOf (z ^^^ c) + row.length := fun z hz => by
    rw [idxOf_append_not (new_not cl hc hz)]
    have : (row.map (· ^^^ c)).idxOf (z ^^^ c ^^^ c) = row.idxOf (z ^^^ c) := idxOf_map_xor
    rw [xor_cancel] at this
    rw [this]
  have lt : ∀ z ∈ row, row.idxOf z < row.length := fun z hz => List.idxOf_lt_length_iff.mpr hz
  have key : ∀ w, w ∈ row → ∀ z, (z ∈ row → ((row ++ row.map (· ^^^ c)).idxOf (z ^^^ w) < (row ++ row.map (· ^^^ c)).idxOf z ↔ row.idxOf (z ^^^ w) < row.idxOf z)) ∧
      (z ^^^ c ∈ row → ((row ++ row.map (· ^^^ c)).idxOf (z ^^^ w) < (row ++ row.map (· ^^^ c)).idxOf z ↔ row.idxOf (z ^^^ c ^^^ w) < row.idxOf (z ^^^ c))) := fun w hw z =>
    ⟨fun hz => by rw [io _ (cl _ hz _ hw), io _ hz], fun hz => by
      have e : z ^^^ w ^^^ c = z ^^^ c ^^^ w := xr z w c
      have hm : z ^^^ w ^^^ c ∈ row := by rw [e]; exact cl _ hz _ hw
      rw [iN _ hm, iN _ hz, e]; omega⟩
  have kn : ∀ w, w ^^^ c ∈ row → ∀ z, (z ∈ row → ¬ ((row ++ row.map (· ^^^ c)).idxOf (z ^^^ w) < (row ++ row.map (· ^^^ c)).idxOf z)) ∧
      (z ^^^ c ∈ row → ((row ++ row.map (· ^^^ c)).idxOf (z ^^^ w) < (row ++ row.map (· ^^^ c)).idxOf z)) := fun w hw z =>
    ⟨fun hz => by
      have hm : z ^^^ w ^^^ c ∈ row := by rw [Nat.xor_assoc]; exact cl _ hz _ hw
      rw [iN _ hm, io _ hz]
      have := lt z hz
      omega, fun hz => by
      have hm : z ^^^ w ∈ row := by
        have := cl _ hz _ hw
        have e : z ^^^ c ^^^ (w ^^^ c) = z ^^^ w := by rw [← Nat.xor_assoc, xr z c w, xor_cancel]
        rwa [e] at this
      rw [io _ hm, iN _ hz]
      have := lt _ hm
      omega⟩
  intro z₁ h₁ z₂ h₂ w hw hw0
  have rr : ∀ a b, a ^^^ c ^^^ (b ^^^ c) = a ^^^ b := fun a b => by rw [← Nat.xor_assoc, xr a c b, xor_cancel]
  rcases List.mem_append.mp hw with hw | hw
  · rcases List.mem_append.mp h₁ with h₁ | h₁ <;> rcases List.mem_append.mp h₂ with h₂ | h₂
    · rw [(key w hw _).1 (cl _ h₁ _ h₂), (key w hw _).1 h₁, (key w hw _).1 h₂]
      exact O _ h₁ _ h₂ _ hw hw0
    · have h₂ := mem_map_xor.mp h₂
      have e : z₁ ^^^ z₂ ^^^ c = z₁ ^^^ (z₂ ^^^ c) := Nat.xor_assoc ..
      rw [(key w hw (z₁ ^^^ z₂)).2 (by rw [e]; exact cl _ h₁ _ h₂), (key w hw _).1 h₁, (key w hw _).2 h₂, e]
      exact O _ h₁ _ h₂ _ hw hw0
    · have h₁ := mem_map_xor.mp h₁
      have e : z₁ ^^^ z₂ ^^^ c = z₁ ^^^ c ^^^ z₂ := xr ..
      rw [(key w hw (z₁ ^^^ z₂)).2 (by rw [e]; exact cl _ h₁ _ h₂), (key w hw _).2 h₁, (key w hw _).1 h₂, e]
      exact O _ h₁ _ h₂ _ hw hw0
    · have h₁ := mem_map_xor.mp h₁
      have h₂ := mem_map_xor.mp h₂
      have e := rr z₁ z₂
      rw [(key w hw (z₁ ^^^ z₂)).1 (by rw [← e]; exact cl _ h₁ _ h₂), (key w hw _).2 h₁, (key w hw _).2 h₂, ← e]
      exact O _ h₁ _ h₂ _ hw hw0
  · have hw := mem_map_xor.mp hw
    rcases List.mem_append.mp h₁ with h₁ | h₁ <;> rcases List.mem_append.mp h₂ with h₂ | h₂
    · have a := (kn w hw _).1 (cl _ h₁ _ h₂)
      have b := (kn w hw _).1 h₁
      have d := (kn w hw _).1 h₂
      simp only [a, b, d]; simp
    · have h₂ := mem_map_xor.mp h₂
      have a := (kn w hw (z₁ ^^^ z₂)).2 (by rw [Nat.xor_assoc]; exact cl _ h₁ _ h₂)
      have b := (kn w hw _).1 h₁
      have d := (kn w hw _).2 h₂
      simp only [a, b, d]; simp
    · have h₁ := mem_map_xor.mp h₁
      have a := (kn w hw (z₁ ^^^ z₂)).2 (by rw [xr]; exact cl _ h₁ _ h₂)
      have b := (kn w hw _).2 h₁
      have d := (kn w hw _).1 h₂
      simp only [a, b, d]; simp
    · have h₁ := mem_map_xor.mp h₁
      have h₂ := mem_map_xor.mp h₂
      have a := (kn w hw (z₁ ^^^ z₂)).1 (by rw [← rr]; exact cl _ h₁ _ h₂)
      have b := (kn w hw _).2 h₁
      have d := (kn w hw _).2 h₂
      simp only [a, b, d]; simp
/-- what is kept along the new half, when g is the first that fits -/
theorem coset (h0 : P 0 = false) (I : Inv P row code) (hc : c ∉ row) {g : Nat} (hg : g ∈ row.map (· ^^^ c)) (hgok : ok P (greedy P row) g = true)
    (hfirst : ∀ x ∈ row.map (· ^^^ c), ok P (greedy P row) x = true → (row.map (· ^^^ c)).idxOf g ≤ (row.map (· ^^^ c)).idxOf x) :
    ∀ (pre post : List Nat), row.map (· ^^^ c) = pre ++ post → ∃ Lp, greedy P (row ++ pre) = greedy P row ++ Lp ∧ (∀ y ∈ Lp, g ^^^ y ∈ greedy P row ∧ y ∈ pre) ∧ (∀ y ∈ pre, g ^^^ y ∈ greedy P row → y ∈ Lp) := by
  have K := kept_greedy h0 row
  have hv0 := mem_map_xor.mp hg
  suffices h : ∀ n (pre post : List Nat), pre.length = n → row.map (· ^^^ c) = pre ++ post → ∃ Lp, greedy P (row ++ pre) = greedy P row ++ Lp ∧ (∀ y ∈ Lp, g ^^^ y ∈ greedy P row ∧ y ∈ pre) ∧ (∀ y ∈ pre, g ^^^ y ∈ greedy P row → y ∈ Lp) from
    fun pre post e => h _ pre post rfl e
  intro n
  induction n with
  | zero =>
    intro pre post hl _
    have : pre = [] := List.eq_nil_of_length_eq_zero hl
    subst this
    exact ⟨[], by simp, (fun _ h => nomatch h), (fun _ h => nomatch h)⟩
  | succ n ih =>
    intro pre' post hl e'
    have hne : pre' ≠ [] := fun e => by rw [e] at hl; cases hl
    have ed := List.dropLast_concat_getLast hne
    have hl' : pre'.dropLast.length = n := by rw [List.length_dropLast, hl]; rfl
    generalize pre'.getLast hne = x at ed
    generalize pre'.dropLast = pre at ed hl'
    subst ed
    have e : row.map (· ^^^ c) = pre ++ x :: post := by rw [e']; simp
    obtain ⟨Lp, eL, hL1, hL2⟩ := ih pre (x :: post) hl' e
    have KK := kept_greedy h0 (row ++ pre)
    rw [eL] at KK
    have eS : greedy P (row ++ (pre ++ [x])) = step P (greedy P row ++ Lp) x := by rw [← List.append_assoc, greedy_snoc, eL]
    have hxn : x ∈ row.map (· ^^^ c) := by rw [e]; simp
    have hvx := mem_map_xor.mp hxn
    have hxr : x ∉ row := new_not I.closed hc hvx
    by_cases hxS : g ^^^ x ∈ greedy P row
    · by_cases hxp : x ∈ pre
      · have hxl := hL2 x hxp hxS
        have hno : ok P (greedy P row ++ Lp) x = false := ok_false.mpr ⟨x, List.mem_append_right _ hxl, by rw [Nat.xor_self]; exact h0⟩
        refine ⟨Lp, by rw [eS]; unfold step; rw [hno]; rfl, fun y hy => ⟨(hL1 y hy).1, List.mem_append_left _ (hL1 y hy).2⟩, fun y hy hS => ?_⟩
        rcases List.mem_append.mp hy with hy | hy
        · exact hL2 y hy hS
        · rw [List.mem_singleton.mp hy]; exact hxl
      · have hyes : ok P (greedy P row ++ Lp) x = true := by
          refine ok_true.mpr fun o ho => ?_
          rcases List.mem_append.mp ho with ho | ho
          · have h1 := I.kclosed _ ho _ hxS
            have h2 := ok_true.mp hgok _ h1
            have e3 : o ^^^ (g ^^^ x) ^^^ g = o ^^^ x := by
              rw [Nat.xor_assoc, Nat.xor_comm g x, xor_cancel]
            rwa [e3] at h2
          · obtain ⟨hoS, hop⟩ := hL1 o ho
            have hne : g ^^^ o ≠ g ^^^ x := fun q => hxp (by
              have := congrArg (g ^^^ ·) q
              simp only [xor_cancel_left] at this
              rw [← this]; exact hop)
            have := K.apart _ hoS _ hxS hne
            have e3 : g ^^^ o ^^^ (g ^^^ x) = o ^^^ x := by rw [Nat.xor_comm g o, Nat.xor_assoc, xor_cancel_left]
            rwa [e3] at this
        refine ⟨Lp ++ [x], by rw [eS]; unfold step; rw [hyes]; simp, fun y hy => ?_, fun y hy hS => ?_⟩
        · rcases List.mem_append.mp hy with hy | hy
          · exact ⟨(hL1 y hy).1, List.mem_append_left _ (hL1 y hy).2⟩
          · have := List.mem_singleton.mp hy
            subst this
            exact ⟨hxS, by simp⟩
        · rcases List.mem_append.mp hy with hy | hy
          · exact List.mem_append_left _ (hL2 y hy hS)
          · exact List.mem_append_right _ hy
    · have hno : ok P (greedy P row ++ Lp) x = false := by
        cases hok : ok P (greedy P row ++ Lp) x with
        | false => rfl
        | true =>
          exfalso
          have hk := ok_true.mp hok
          by_cases hxp : x ∈ pre
          · have hxk : x ∉ greedy P row ++ Lp := fun q => by
              rcases List.mem_append.mp q with q | q
              · exact hxr (K.sub _ q)
              · exact hxS (hL1 _ q).1
            obtain ⟨k, hkk, _, hp⟩ := KK.out x (List.mem_append_right _ hxp) hxk
            rw [hk k hkk] at hp; cases hp
          · have hu : g ^^^ x ∈ row := by
              have := I.closed _ hv0 _ hvx
              have e3 : g ^^^ c ^^^ (x ^^^ c) = g ^^^ x := by rw [← Nat.xor_assoc, xr g c x, xor_cancel]
              rwa [e3] at this
            obtain ⟨k, hkK, hlt, hp⟩ := K.out _ hu hxS
            have hkr := K.sub _ hkK
            have hyn : g ^^^ k ^^^ c ∈ row := by rw [xr]; exact I.closed _ hv0 _ hkr
            have hyN : g ^^^ k ∈ row.map (· ^^^ c) := mem_map_xor.mpr hyn
            have hyS : g ^^^ (g ^^^ k) ∈ greedy P row := by rw [xor_cancel_left]; exact hkK
            have hpy : P (g ^^^ k ^^^ x) = false := by
              have e3 : g ^^^ k ^^^ x = k ^^^ (g ^^^ x) := by rw [Nat.xor_comm g k, Nat.xor_assoc]
              rw [e3]; exact hp
            have hynp : g ^^^ k ∉ pre := fun q => by
              have := hk _ (List.mem_append_right _ (hL2 _ q hyS))
              rw [hpy] at this; cases this
            have hyx : g ^^^ k ≠ x := fun q => hxS (q ▸ hyS)
            have i1 : (row.map (· ^^^ c)).idxOf x = pre.length := by
              rw [e, idxOf_append_not hxp, List.idxOf_cons]; simp
            have i2 : pre.length < (row.map (· ^^^ c)).idxOf (g ^^^ k) := by
              rw [e, idxOf_append_not hynp, List.idxOf_cons, beq_eq_false_iff_ne.mpr (Ne.symm hyx)]
              show pre.length < _ + 1 + pre.length
              omega
            have j : ∀ z, (row.map (· ^^^ c)).idxOf z = row.idxOf (z ^^^ c) := fun z => by
              have : (row.map (· ^^^ c)).idxOf (z ^^^ c ^^^ c) = row.idxOf (z ^^^ c) := idxOf_map_xor
              rwa [xor_cancel] at this
            rw [j] at i1 i2
            have hw : g ^^^ x ^^^ k ∈ row := I.closed _ hu _ hkr
            have hw0 : g ^^^ x ^^^ k ≠ 0 := fun q => hxS (by rw [xor_eq_zero.mp q]; exact hkK)
            have O := I.ord _ hv0 _ hu _ hw hw0
            have a1 : g ^^^ c ^^^ (g ^^^ x) = x ^^^ c := by rw [Nat.xor_comm g c, Nat.xor_assoc, xor_cancel_left, Nat.xor_comm]
            have a2 : g ^^^ x ^^^ (g ^^^ x ^^^ k) = k := xor_cancel_left _ _
            have a3 : x ^^^ c ^^^ (g ^^^ x ^^^ k) = g ^^^ k ^^^ c := by
              rw [Nat.xor_comm g x, Nat.xor_assoc x g k, Nat.xor_comm x c, Nat.xor_assoc, xor_cancel_left, Nat.xor_comm]
            rw [a1, a2, a3] at O
            have o1 : ¬ (row.idxOf (g ^^^ k ^^^ c) < row.idxOf (x ^^^ c)) := by omega
            have o2 : row.idxOf (g ^^^ c ^^^ (g ^^^ x ^^^ k)) < row.idxOf (g ^^^ c) := by
              have : (row.idxOf (g ^^^ c ^^^ (g ^^^ x ^^^ k)) < row.idxOf (g ^^^ c) ↔ row.idxOf k < row.idxOf (g ^^^ x)) := Classical.byContradiction fun q => o1 (O.mpr q)
              exact this.mpr hlt
            have a4 : g ^^^ c ^^^ (g ^^^ x ^^^ k) = x ^^^ k ^^^ c := by
              rw [Nat.xor_comm g c, Nat.xor_assoc g x k, Nat.xor_assoc, xor_cancel_left, Nat.xor_comm]
            rw [a4] at o2
            have hx' : x ^^^ k ∈ row.map (· ^^^ c) := mem_map_xor.mpr (by rw [← a4]; exact I.closed _ hv0 _ hw)
            have hx'ok : ok P (greedy P row) (x ^^^ k) = true := ok_true.mpr fun o ho => by
              have h1 := hk _ (List.mem_append_left _ (I.kclosed _ ho _ hkK))
              have e3 : o ^^^ k ^^^ x = o ^^^ (x ^^^ k) := by rw [Nat.xor_assoc, Nat.xor_comm k x]
              rwa [e3] at h1
            have := hfirst _ hx' hx'ok
            rw [j, j] at this
            omega
      refine ⟨Lp, by rw [eS]; unfold step; rw [hno]; rfl, fun y hy => ⟨(hL1 y hy).1, List.mem_append_left _ (hL1 y hy).2⟩, fun y hy hS => ?_⟩
      rcases List.mem_append.mp hy with hy | hy
      · exact hL2 y hy hS
      · rw [List.mem_singleton.mp hy] at hS; exact absurd hS hxS
theorem inv_new (h0 : P 0 = false) (I : Inv P row code) (hc : c ∉ row) : Inv P (grow P (row, code) c).1 (grow P (row, code) c).2 := by
  have K := kept_greedy h0 row
  have hok : ∀ x, ok P code x = ok P (greedy P row) x := ok_perm fun x => I.perm.mem_iff
  have e1 : (grow P (row, code) c).1 = row ++ row.map (· ^^^ c) := rfl
  have zero : 0 ∈ row ++ row.map (· ^^^ c) := List.mem_append_left _ I.zero
  have closed : ∀ a ∈ row ++ row.map (· ^^^ c), ∀ b ∈ row ++ row.map (· ^^^ c), a ^^^ b ∈ row ++ row.map (· ^^^ c) := fun a ha b hb => by
    rcases List.mem_append.mp ha with ha | ha <;> rcases List.mem_append.mp hb with hb | hb
    · exact List.mem_append_left _ (I.closed _ ha _ hb)
    · have hb := mem_map_xor.mp hb
      exact List.mem_append_right _ (mem_map_xor.mpr (by rw [Nat.xor_assoc]; exact I.closed _ ha _ hb))
    · have ha := mem_map_xor.mp ha
      exact List.mem_append_right _ (mem_map_xor.mpr (by rw [xr]; exact I.closed _ ha _ hb))
    · have ha := mem_map_xor.mp ha
      have hb := mem_map_xor.mp hb
      have := I.closed _ ha _ hb
      have e3 : a ^^^ c ^^^ (b ^^^ c) = a ^^^ b := by rw [← Nat.xor_assoc, xr a c b, xor_cancel]
      rw [e3] at this
      exact List.mem_append_left _ this
  have ord := ord_new I.closed I.ord hc
  cases hf : (row.map (· ^^^ c)).filter (ok P code) with
  | nil =>
    have e2 : (grow P (row, code) c).2 = code := by
      show (match (row.map (· ^^^ c)).filter (ok P code) with | [] => code | g :: _ => code ++ code.map (g ^^^ ·)) = code
      rw [hf]
    have eg : greedy P (row ++ row.map (· ^^^ c)) = greedy P row := by
      rw [greedy_append]
      refine foldl_none fun x hx => ?_
      have := List.filter_eq_nil_iff.mp hf x hx
      rw [hok] at this
      simpa using this
    rw [e1, e2]
    exact ⟨zero, closed, ord, eg ▸ I.kclosed, eg ▸ I.kzero, eg ▸ I.perm⟩
  | cons g t =>
    have e2 : (grow P (row, code) c).2 = code ++ code.map (g ^^^ ·) := by
      show (match (row.map (· ^^^ c)).filter (ok P code) with | [] => code | g :: _ => code ++ code.map (g ^^^ ·)) = _
      rw [hf]
    obtain ⟨⟨hg, hgok⟩, hle⟩ := filter_head hf
    rw [hok] at hgok
    obtain ⟨Lp, eL, hL1, hL2⟩ := coset h0 I hc hg hgok (fun x hx hp => hle x hx (by rw [hok]; exact hp)) (row.map (· ^^^ c)) [] (by simp)
    have hv0 := mem_map_xor.mp hg
    have hmem : ∀ y, y ∈ Lp ↔ g ^^^ y ∈ greedy P row := fun y => ⟨fun h => (hL1 y h).1, fun h => hL2 y (mem_map_xor.mpr (by
      have := I.closed _ hv0 _ (K.sub _ h)
      have e3 : g ^^^ c ^^^ (g ^^^ y) = y ^^^ c := by rw [Nat.xor_comm g c, Nat.xor_assoc, xor_cancel_left, Nat.xor_comm]
      rwa [e3] at this)) h⟩
    have KK := kept_greedy h0 (row ++ row.map (· ^^^ c))
    rw [eL] at KK
    have nL : Lp.Nodup := (List.nodup_append.mp KK.nd).2.1
    have nS : ((greedy P row).map (g ^^^ ·)).Nodup := List.Pairwise.map _ (fun a b h q => h (by
      have := congrArg (g ^^^ ·) q
      simpa only [xor_cancel_left] using this)) K.nd
    have pL : Lp.Perm ((greedy P row).map (g ^^^ ·)) := (List.perm_ext_iff_of_nodup nL nS).mpr fun y => by
      rw [hmem, List.mem_map]
      exact ⟨fun h => ⟨_, h, xor_cancel_left _ _⟩, fun ⟨k, hk, e⟩ => by rw [← e, xor_cancel_left]; exact hk⟩
    rw [e1, e2]
    refine ⟨zero, closed, ord, ?_, ?_, ?_⟩
    · rw [eL]
      intro a ha b hb
      rcases List.mem_append.mp ha with ha | ha <;> rcases List.mem_append.mp hb with hb | hb
      · exact List.mem_append_left _ (I.kclosed _ ha _ hb)
      · have hb := (hmem _).mp hb
        exact List.mem_append_right _ ((hmem _).mpr (by
          have := I.kclosed _ ha _ hb
          have e3 : a ^^^ (g ^^^ b) = g ^^^ (a ^^^ b) := by rw [← Nat.xor_assoc, Nat.xor_comm a g, Nat.xor_assoc]
          rwa [e3] at this))
      · have ha := (hmem _).mp ha
        exact List.mem_append_right _ ((hmem _).mpr (by
          have := I.kclosed _ ha _ hb
          rwa [Nat.xor_assoc] at this))
      · have ha := (hmem _).mp ha
        have hb := (hmem _).mp hb
        have := I.kclosed _ ha _ hb
        have e3 : g ^^^ a ^^^ (g ^^^ b) = a ^^^ b := by rw [Nat.xor_comm g a, Nat.xor_assoc, xor_cancel_left]
        rw [e3] at this
        exact List.mem_append_left _ this
    · rw [eL]; exact List.mem_append_left _ I.kzero
    · rw [eL]
      exact I.perm.append ((I.perm.map _).trans pL.symm)
theorem inv_grow (h0 : P 0 = false) (I : Inv P row code) (c : Nat) : Inv P (grow P (row, code) c).1 (grow P (row, code) c).2 := by
  by_cases hc : c ∈ row
  · exact inv_old h0 I hc
  · exact inv_new h0 I hc
end
theorem inv_start {P : Nat → Bool} : Inv P [0] [0] := by
  have e : greedy P [0] = [0] := rfl
  refine ⟨by simp, fun a ha b hb => ?_, fun z₁ h₁ z₂ h₂ w hw hw0 => absurd (List.mem_singleton.mp hw) hw0, ?_, by rw [e]; simp, by rw [e]⟩
  · rw [List.mem_singleton.mp ha, List.mem_singleton.mp hb]; simp
  · rw [e]; intro a ha b hb
    rw [List.mem_singleton.mp ha, List.mem_singleton.mp hb]; simp
theorem code_perm {P : Nat → Bool} (h0 : P 0 = false) (cs : List Nat) : (cs.foldl (grow P) ([0], [0])).2.Perm (greedy P (cs.foldl (grow P) ([0], [0])).1) := by
  suffices h : ∀ (cs : List Nat) (s : List Nat × List Nat), Inv P s.1 s.2 → Inv P (cs.foldl (grow P) s).1 (cs.foldl (grow P) s).2 from (h cs _ inv_start).perm
  intro cs
  induction cs with
  | nil => intro s I; exact I
  | cons c r ih => intro s I; exact ih _ (inv_grow h0 (row := s.1) (code := s.2) I c)
end Mine.Lex
end
section
open PySem PySem.W PyProof.Rows
set_option Elab.async false
set_option maxRecDepth 100000
set_option maxHeartbeats 4000000
namespace Mine
theorem offExc : True := by
  w_top off
  exact True.intro
/-- what may be handled where an error is raised: nothing, or an exception without a context -/
def HandledOk (A : Around) (h : Heap) : Prop := A.handled = none ∨ ∃ e oe vs, A.handled = some (.ref e) ∧ h.get? e = some oe ∧ oe.data = .fields vs ∧ vs[2]? = some .none
theorem HandledOk.keeps {A : Around} {h h' : Heap} (x : HandledOk A h) (k : ∀ b o, h.get? b = some o → h'.get? b = some o) : HandledOk A h' :=
  x.imp id fun ⟨e, oe, vs, a, b, c, d⟩ => ⟨e, oe, vs, a, k _ _ b, c, d⟩
structure NewX (h h' : Heap) (e : Addr) (c : Value) : Prop where
  keeps : ∀ b o, h.get? b = some o → h'.get? b = some o
  new : h.get? e = none
  there : ∃ ob t, h'.get? e = some ob ∧ ob.cls = .type "IndexError" ∧ ob.data = .fields #[t, .none, c, .none, .bool false, .none]
theorem entry_unchain : entryFor table "proto.unchain" = some Builtin.«proto.unchain» := entryFor_of_fast (by kernel_rfl)
section
variable {α : Type} {prog : Program} {w : World} {A : Around} {E : Value → Shared → Prop} {s : Shared}
theorem raiseNew_x {e : Addr} {Q : α → Shared → Prop} {t : Value} {ob : Obj} (hh : HandledOk A s.heap) (hnew : ∀ e₀ oe vs, A.handled = some (.ref e₀) → s.heap.get? e₀ = some oe → oe.data = .fields vs → e₀ ≠ e)
    (he : s.heap.get? e = some ob) (hd : ob.data = .fields #[t, .none, .none, .none, .bool false, .none])
    (h0 : A.handled = none → E (.ref e) s)
    (h1 : ∀ e₀, A.handled = some (.ref e₀) → (∃ o, s.heap.get? e₀ = some o) → E (.ref e) { s with heap := s.heap.update e (Obj.mapFields (·.setIfInBounds 2 (.ref e₀))) }) :
    wpAny (model prog w) A (raiseNew (.ref e) : Sem α) Q E s := by
  unfold raiseNew
  refine wpAny_bind (wpAny_handled ?_)
  rcases hh with hh | ⟨e₀, oe, vs, hh, heo, hvs, hc⟩
  · rw [hh]
    exact wpAny_bind (wpAny_pure (wpAny_throw (h0 hh)))
  · rw [hh]
    have hne : (Value.ref e₀ != Value.ref e) = true := by
      have := hnew e₀ oe vs hh heo hvs
      simpa using this
    dsimp only
    rw [if_pos hne]
    refine wpAny_bind (wpAny_holding (wpAny_runValue (codeAny_builtin entry_unchain ?_)))
    show wpAny _ _ (Builtin.«proto.unchain» ⟨[.ref e, .ref e₀, .ref e₀, .bool false], []⟩) _ _ _
    unfold Builtin.«proto.unchain»
    refine wpAny_bind (wpAny_field heo hvs hc ?_)
    rw [if_pos (by rfl)]
    refine wpAny_bind (wpAny_pure ?_)
    refine wpAny_pure ?_
    have hsz : (2 : Nat) < (#[t, Value.none, .none, .none, .bool false, .none] : Array Value).size := by simp
    have := wpAny_setField (M := model prog w) (A := A) (E := E) (x := .ref e₀) (Q := fun _ s' => wpAny (model prog w) A (throw (.ref e) : Sem α) Q E s') he hd hsz (wpAny_throw (h1 e₀ hh ⟨_, heo⟩))
    exact wpAny_bind this
theorem raise_x {msg : String} {Q : α → Shared → Prop} (hh : HandledOk A s.heap)
    (h : ∀ h' tk e c, (A.handled = none → c = .none) → NewX s.heap h' e c → E (.ref e) { s with heap := h', toks := tk }) :
    wpAny (model prog w) A (raiseErrorWords "IndexError" msg : Sem α) Q E s := by
  unfold raiseErrorWords
  refine wpAny_bind (wpAny_mkText (wpAny_bind ?_))
  unfold newExc newTuple
  refine wpAny_bind (wpAny_newObj_type ?_)
  refine wpAny_bind (m := firstArgMember _ _) (wpAny_of_eq (a := Value.none) (by simp only [firstArgMember, plainExc_IndexError.first]; rfl) ?_)
  rw [plainExc_IndexError.own]
  refine wpAny_newObj_type ?_
  generalize hg : Heap.push s.heap _ = h1
  have hsz : h1.objs.size = s.heap.objs.size + 1 := by rw [← hg, Heap.size_push]
  have k1 : ∀ b o, s.heap.get? b = some o → h1.get? b = some o := fun b o e => by rw [← hg]; exact Heap.get?_push_of_some _ e
  have hnone : s.heap.get? h1.objs.size = none := Heap.get?_none_of_le (by rw [hsz]; exact Nat.le_succ _)
  have hgo := Heap.get?_push_size h1 (o := { cls := .type "IndexError", dict := none, data := .fields (#[.ref s.heap.objs.size, .none, .none, .none, .bool false, .none] ++ #[]) }) rfl
  have k2 : ∀ b o, s.heap.get? b = some o → (h1.push { cls := .type "IndexError", dict := none, data := .fields (#[.ref s.heap.objs.size, .none, .none, .none, .bool false, .none] ++ #[]) }).get? b = some o := fun b o e => Heap.get?_push_of_some _ (k1 b o e)
  refine raiseNew_x (t := .ref s.heap.objs.size) (ob := { cls := .type "IndexError", dict := none, data := .fields (#[.ref s.heap.objs.size, .none, .none, .none, .bool false, .none] ++ #[]) }) (hh.keeps k2) (fun e₀ oe vs hA heo _ q => ?_) hgo (by simp) (fun hA => ?_) (fun e₀ hA heo => ?_)
  · rcases hh with hh | ⟨e₁, oe₁, vs₁, hh, heo₁, _⟩
    · rw [hh] at hA; cases hA
    · rw [hh] at hA
      injection hA with hA; injection hA with hA
      subst hA
      have : s.heap.get? e₁ = some oe₁ := heo₁
      rw [q] at this
      rw [hnone] at this; cases this
  · exact h _ _ _ .none (fun _ => rfl) ⟨k2, hnone, _, .ref s.heap.objs.size, hgo, rfl, by simp⟩
  · have hne : ∀ b o, s.heap.get? b = some o → h1.objs.size ≠ b := fun b o e q => by rw [← q, hnone] at e; cases e
    rcases hh with hh | ⟨e₁, oe₁, vs₁, hh, heo₁, _⟩
    · rw [hh] at hA; cases hA
    rw [hh] at hA
    injection hA with hA; injection hA with hA
    subst hA
    refine h _ _ _ (.ref e₁) (fun q => by rw [hh] at q; cases q) ⟨fun b o e => ?_, hnone, _, .ref s.heap.objs.size, Heap.get?_update_self _ hgo (by rfl), rfl, by simp [Obj.mapFields]⟩
    rw [Heap.get?_update_other _ _ (hne b o e)]
    exact k2 b o e
open PySem.Calls in
theorem item_out_x {l : Addr} {items : Array Value} {k : Int} {t : Tok} {Q : Value → Shared → Prop} (hA : HandledOk A s.heap) (hl : s.heap.IsList l items)
    (hlo : 0 ≤ k) (hout : (items.size : Int) ≤ k) (hhi : k < 2 ^ 63)
    (hE : ∀ h' tk e c, (A.handled = none → c = .none) → NewX s.heap h' e c → E (.ref e) { s with heap := h', toks := tk }) :
    wpAny (model prog w) A (getItem (.ref l) (.int k t)) Q E s := by
  obtain ⟨o, ho, hc, ne, hd⟩ := id hl
  unfold getItem
  try with_reducible refine wpAny_holding ?_
  first | refine wpAny_bind (wpAny_pure ?_) | skip
  refine wpAny_bind (wpAny_sequenceKey hl.typeIs (by decide) ?_)
  refine wpAny_bind (wpAny_callSpecial?_slot (name := Str.ofString "__getitem__") hl.typeIs slot_list_getitem
    (wpAny_call_entry slot_list_getitem hl.typeIs entry_list_getitem ?_ (args_list_getitem _ _)))
  show wpAny _ _ (Builtin.List.listSubscript? (.int k t) >>= _) _ _ s
  refine wpAny_bind (wpAny_listSubscript_int (fitsIndex_both (by omega) hhi) ?_)
  clear hhi
  cases k with
  | negSucc j => exact absurd hlo (by have := Int.negSucc_lt_zero j; omega)
  | ofNat j =>
    have hx : items[j]? = none := Array.getElem?_eq_none (by have : (items.size : Int) ≤ (j : Int) := hout; omega)
    show wpAny _ _ ((seqItemAt l j >>= fun r => pure (r.map (j, ·))) >>= _) _ _ s
    refine wpAny_bind (wpAny_bind (wpAny_seqItemAt ho hd (wpAny_pure ?_)))
    rw [hx]
    have hA' : HandledOk A.in1 s.heap := hA
    first
      | exact wpAny_bind (wpAny_rule (raise_x hA' hE))
      | exact wpAny_bind (wpAny_rule (wpAny_bind (raise_x hA' hE)))
      | exact wpAny_bind (wpAny_bind (wpAny_rule (raise_x hA' hE)))
      | exact wpAny_rule (raise_x hA' hE)
end
end Mine
end
section
open PySem PySem.W PyProof.Rows PySem.Calls
set_option Elab.async false
set_option maxRecDepth 100000
set_option maxHeartbeats 4000000
namespace Mine
theorem offExc2 : True := by
  w_top off
  exact True.intro
section
variable {prog : Program} {w : World} {A : Around} {E : Value → Shared → Prop} {s : Shared}
theorem item_strs_x {value slice : Expr} {a : Addr} {l : List Value} {ys : List Str} {k : Int} {u : Tok} {Q : Value → Shared → Prop} (hA : HandledOk A s.heap) (hl : s.heap.IsList a l.toArray) (hi : StrsAre l ys)
    (hk0 : 0 ≤ k) (hhi : k < 2 ^ 63)
    (h1 : k < ys.length → ∀ t', Q (.str (ys.getD k.toNat Str.empty) t') s)
    (h0 : (ys.length : Int) ≤ k → ∀ h' tk e c, (A.handled = none → c = .none) → NewX s.heap h' e c → E (.ref e) { s with heap := h', toks := tk })
    (hs : subscripted slice false (.ref a) (.int k u) = operate [.ref a, .int k u] (getItem (.ref a) (.int k u)) := by with_unfolding_all rfl) (hg : ∀ r, letTemporaryGo value (.ref a) r = pure () := by intro _; with_unfolding_all rfl) :
    wpAny (model prog w) A (subscriptTail value slice (.ref a) (.int k u)) Q E s := by
  by_cases hin : k < ys.length
  · exact item_strsA hl hi hk0 hin hhi (h1 hin) hs hg
  · have hsz : l.toArray.size = ys.length := by rw [List.size_toArray]; exact hi.len_eq
    exact subscriptTail_builtin hl.typeIs slot_list_getitem.lookup (item_out_x hA hl hk0 (by rw [hsz]; omega) hhi (h0 (by omega))) hs hg
end
/-- an exception with its first note; fl: where it flies -/
structure Held (oe oT : Obj) (T : Addr) (c fl : Value) : Prop where
  cls : oe.cls = .type "IndexError"
  flds : ∃ vs, oe.data = .fields vs ∧ vs.size = 6 ∧ vs[1]? = some (.ref T) ∧ vs[2]? = some c
  tb : ∃ ts, oT.data = .fields ts ∧ ts[3]? = some fl
structure Grd (B : Heap) (L Lo : Addr) (mo m : Str → Option Value) (h : Heap) (news : List (Addr × Obj)) : Prop where
  F : Fr B L h m
  O : h.Ns Lo mo
  hB : B.get? Lo = none
  hne : Lo ≠ L
  N : News B L h news
  hn : ∀ p ∈ news, p.1 ≠ Lo
def Ex1 (B : Heap) (L Lo : Addr) (mo m : Str → Option Value) (h : Heap) (news : List (Addr × Obj)) (c fl : Value) (e : Addr) : Prop :=
  ∃ oe T oT, Grd B L Lo mo m h ((e, oe) :: (T, oT) :: news) ∧ Held oe oT T c fl ∧ e ≠ T ∧ (∀ p ∈ news, p.1 ≠ T ∧ p.1 ≠ e)
section
variable {M : Model} {A : Around} {E : Value → Shared → Prop} {s : Shared} {B h : Heap} {L Lo e : Addr} {mo m : Str → Option Value} {news : List (Addr × Obj)} {env envo : Env} {c fl : Value}
theorem Grd.funFrames (G : Grd B L Lo mo m h news) (hf : env.frame = some L) (hfo : envo.frame = some Lo) (hk : env.scope.kind = .function) (hko : envo.scope.kind = .function) : h.FunFrames B [env, envo] := by
  have hL : B.get? L = none := by
    cases q : B.get? L with
    | none => rfl
    | some o => exact absurd (Nat.lt_of_lt_of_le (Heap.lt_size q) G.F.above) (Nat.lt_irrefl _)
  exact .cons (by rw [hk]; decide) hf G.F.ns hL (.cons (by rw [hko]; decide) hfo G.O G.hB trivial)
theorem Grd.keeps {h' : Heap} (G : Grd B L Lo mo m h news) (k : ∀ b o, h.get? b = some o → h'.get? b = some o) : Grd B L Lo mo m h' news :=
  ⟨G.F.keeps k, G.O.keeps k, G.hB, G.hne, fun p hp => ⟨k _ _ (G.N p hp).1, (G.N p hp).2⟩, G.hn⟩
theorem note_new {Q : Unit → Shared → Prop} (hfr : A.frames = some [env, envo]) (hf : env.frame = some L) (hfo : envo.frame = some Lo) (hk : env.scope.kind = .function) (hko : envo.scope.kind = .function)
    (G : Grd B L Lo mo m h news) (hx : NewX h s.heap e c)
    (k : ∀ h', Ex1 B L Lo mo m h' news c (rawInt L) e → Q () { s with heap := h' }) :
    wpAny M A (noteFrame (.ref e) env) Q E s := by
  have G' := G.keeps hx.keeps
  obtain ⟨ob, t, he, hcls, hd⟩ := hx.there
  have hl := G'.funFrames hf hfo hk hko
  have hfs : [env, envo].filterMap (·.frame) = [L, Lo] := by simp [hf, hfo]
  unfold noteFrame
  simp only [hf]
  refine wpAny_bind (wpAny_field he hd (x := .none) (by simp) ?_)
  rw [if_neg (by decide)]
  refine wpAny_bind (wpAny_frameOf_fun hfr hl hf fun h₁ hs₁ => ?_)
  rw [hfs] at hs₁
  refine wpAny_bind (wpAny_entryPlaceOf fun pl hpl => ?_)
  unfold EntryCells.newEntry newFields
  refine wpAny_bind (wpAny_newObj_type ?_ (hpl.sizeOk5 _ _ _ _ _))
  have hdat : ∀ b o es n, s.heap.get? b = some o → o.data = .dict es n → b ≠ e := fun b o es n hb hdd q => by
    rw [q, he] at hb; cases hb; rw [hd] at hdd; cases hdd
  have hLe : L ≠ e := by obtain ⟨o, es, n, ho, hdd, _⟩ := G'.F.ns; exact hdat _ _ _ _ ho hdd
  have hLoe : Lo ≠ e := by obtain ⟨o, es, n, ho, hdd, _⟩ := G'.O; exact hdat _ _ _ _ ho hdd
  have he₁ : h₁.get? e = some ob := (hs₁.2.1 e (by simp [Ne.symm hLe, Ne.symm hLoe])).trans he
  generalize hto : ({ cls := .type "traceback", dict := none, data := .fields ([Value.none, .ref L, .none, rawInt L, .none] ++ (if pl.isEmpty then List.replicate 6 Value.none else pl)).toArray } : Obj) = to
  have hfree : to.isFreed = false := by rw [← hto]; rfl
  have htd : to.data = .fields ([Value.none, .ref L, .none, rawInt L, .none] ++ (if pl.isEmpty then List.replicate 6 Value.none else pl)).toArray := by rw [← hto]
  have he₂ := Heap.get?_push_of_some (h := h₁) to he₁
  refine wpAny_setField he₂ hd (by simp) ?_
  have hTe : h₁.objs.size ≠ e := Nat.ne_of_gt (Heap.lt_size he₁)
  have hd₃ := Obj.data_mapFields hd (·.setIfInBounds 1 (Value.ref h₁.objs.size))
  have he₃ := Heap.get?_update_self (Obj.mapFields (·.setIfInBounds 1 (Value.ref h₁.objs.size))) he₂ (Obj.isFreed_of_fields hd₃)
  have keep : ∀ b o, b ≠ e → h₁.get? b = some o → ((h₁.push to).update e (Obj.mapFields (·.setIfInBounds 1 (Value.ref h₁.objs.size)))).get? b = some o := fun b o hbe hb => by
    rw [Heap.get?_update_other _ _ (Ne.symm hbe)]
    exact Heap.get?_push_of_some _ hb
  have hTL : ∀ b o, h₁.get? b = some o → h₁.objs.size ≠ b := fun b o hb => Nat.ne_of_gt (Heap.lt_size hb)
  have hT := (Heap.get?_update_other (h₁.push to) (Obj.mapFields (·.setIfInBounds 1 (Value.ref h₁.objs.size))) (Ne.symm hTe)).trans (Heap.get?_push_size h₁ hfree)
  have nsT : ∀ {a : Addr} {mm : Str → Option Value}, s.heap.Ns a mm → ((h₁.push to).update e (Obj.mapFields (·.setIfInBounds 1 (Value.ref h₁.objs.size)))).Ns a mm := fun {a mm} hn => by
    obtain ⟨o, es, ep, ho, hdd, r⟩ := hn
    obtain ⟨sl, hsl⟩ := hs₁.2.2 a o ho
    exact ⟨_, es, ep, keep a _ (hdat a o _ _ ho hdd) hsl, hdd, r⟩
  have hBe : B.get? e = none := by
    cases q : B.get? e with
    | none => rfl
    | some o => have := G.F.keep e o q; rw [hx.new] at this; cases this
  have hBL : ∀ b o, B.get? b = some o → b ∉ [L, Lo] := fun b o q hm => by
    rcases List.mem_cons.mp hm with z | hm
    · exact absurd (Nat.lt_of_lt_of_le (Heap.lt_size q) G.F.above) (z ▸ Nat.lt_irrefl _)
    · rw [List.mem_singleton.mp hm, G.hB] at q; cases q
  have hBT : B.get? h₁.objs.size = none := by
    cases q : B.get? h₁.objs.size with
    | none => rfl
    | some o =>
      have := G'.F.keep _ o q
      exact absurd (Heap.lt_size this) (by rw [hs₁.1]; exact Nat.lt_irrefl _)
  have hL₁ : ∃ o, h₁.get? L = some o := by obtain ⟨o, es, n, ho, _⟩ := G'.F.ns; obtain ⟨sl, q⟩ := hs₁.2.2 L o ho; exact ⟨_, q⟩
  have hLo₁ : ∃ o, h₁.get? Lo = some o := by obtain ⟨o, es, n, ho, _⟩ := G'.O; obtain ⟨sl, q⟩ := hs₁.2.2 Lo o ho; exact ⟨_, q⟩
  have hnews : ∀ p ∈ news, h₁.get? p.1 = some p.2 ∧ p.1 ≠ e := fun p hp => by
    have hp1 := (G'.N p hp).1
    refine ⟨(hs₁.2.1 p.1 (by simp [(G'.N p hp).2.1, G'.hn p hp])).trans hp1, fun q => ?_⟩
    have := (G.N p hp).1
    rw [q, hx.new] at this; cases this
  refine k _ ⟨Obj.mapFields (·.setIfInBounds 1 (Value.ref h₁.objs.size)) ob, h₁.objs.size, to, ⟨⟨nsT G'.F.ns, fun b o q => keep b o (fun z => by rw [z, hBe] at q; cases q) ((hs₁.2.1 b (hBL b o q)).trans (G'.F.keep b o q)), G.F.above⟩, nsT G'.O, G.hB, G.hne, fun p hp => ?_, fun p hp => ?_⟩, ?_, Ne.symm hTe, fun p hp => ⟨Ne.symm (hTL _ _ (hnews p hp).1), (hnews p hp).2⟩⟩
  · rcases List.mem_cons.mp hp with rfl | hp
    · exact ⟨he₃, Ne.symm hLe, hBe⟩
    · rcases List.mem_cons.mp hp with rfl | hp
      · exact ⟨hT, hTL _ _ hL₁.choose_spec, hBT⟩
      · exact ⟨keep _ _ (hnews p hp).2 (hnews p hp).1, (G'.N p hp).2⟩
  · rcases List.mem_cons.mp hp with rfl | hp
    · exact Ne.symm hLoe
    · rcases List.mem_cons.mp hp with rfl | hp
      · exact hTL _ _ hLo₁.choose_spec
      · exact G'.hn p hp
  · refine ⟨(Obj.cls_mapFields _ _).trans hcls, ⟨_, hd₃, by simp, by simp, by simp⟩, ⟨_, htd, by first | (simp; done) | (rcases hpl with rfl | ⟨_, _, _, _, _, _, _, rfl⟩ <;> simp)⟩⟩
theorem Ex1.tb_ne (X : Ex1 B L Lo mo m h news c fl e) : ∃ oe T oT vs ts, h.get? e = some oe ∧ oe.data = .fields vs ∧ vs[1]? = some (.ref T) ∧ h.get? T = some oT ∧ oT.data = .fields ts ∧ ts[3]? = some fl ∧ Held oe oT T c fl := by
  obtain ⟨oe, T, oT, G, H, _, _⟩ := X
  obtain ⟨vs, h1, _, h2, h3⟩ := H.flds
  obtain ⟨ts, h4, h5⟩ := H.tb
  exact ⟨oe, T, oT, vs, ts, (G.N _ (.head _)).1, h1, h2, (G.N _ (.tail _ (.head _))).1, h4, h5, H⟩
theorem note_again {Q : Unit → Shared → Prop} (hf : env.frame = some L) (X : Ex1 B L Lo mo m s.heap news c (rawInt L) e) (k : Q () s) : wpAny M A (noteFrame (.ref e) env) Q E s := by
  obtain ⟨oe, T, oT, vs, ts, h1, h2, h3, h4, h5, h6, _⟩ := X.tb_ne
  exact wpAny_noteFrame_inFlight hf h1 h2 h3 h4 h5 h6 k
theorem set_flight {Q : Unit → Shared → Prop} (f : Option Addr) (X : Ex1 B L Lo mo m s.heap news c fl e)
    (k : ∀ h', Ex1 B L Lo mo m h' news c (f.elim .none fun a => rawInt a) e → Q () { s with heap := h' }) : wpAny M A (setFlight (.ref e) f) Q E s := by
  obtain ⟨oe, T, oT, G, H, hne, hnew⟩ := X
  obtain ⟨vs, h1, h1s, h2, h3⟩ := H.flds
  obtain ⟨ts, h4, h5⟩ := H.tb
  have he := (G.N _ (.head _)).1
  have hT := (G.N _ (.tail _ (.head _))).1
  have hsz : 3 < ts.size := (Array.getElem?_eq_some_iff.mp h5).1
  unfold setFlight
  refine wpAny_bind (wpAny_field he h1 h2 ?_)
  rw [if_pos (show (Value.ref T != Value.none) = true from by simp)]
  refine wpAny_setField hT h4 hsz (k _ ?_)
  have hd₃ := Obj.data_mapFields h4 (·.setIfInBounds 3 (f.elim Value.none fun f => rawInt f))
  have hT₃ := Heap.get?_update_self (Obj.mapFields (·.setIfInBounds 3 (f.elim Value.none fun f => rawInt f))) hT (Obj.isFreed_of_fields hd₃)
  have other : ∀ b, b ≠ T → (s.heap.update T (Obj.mapFields (·.setIfInBounds 3 (f.elim Value.none fun f => rawInt f)))).get? b = s.heap.get? b := fun b hb => Heap.get?_update_other _ _ (Ne.symm hb)
  have nsT : ∀ {a : Addr} {mm : Str → Option Value}, s.heap.Ns a mm → (s.heap.update T (Obj.mapFields (·.setIfInBounds 3 (f.elim Value.none fun f => rawInt f)))).Ns a mm := fun {a mm} hn => by
    obtain ⟨o, es, ep, ho, hdd, r⟩ := hn
    refine ⟨o, es, ep, (other a fun q => ?_).trans ho, hdd, r⟩
    rw [q, hT] at ho; cases ho; rw [h4] at hdd; cases hdd
  have hBT := (G.N _ (.tail _ (.head _))).2.2
  refine ⟨oe, T, _, ⟨⟨nsT G.F.ns, fun b o q => (other b fun z => by rw [z, hBT] at q; cases q).trans (G.F.keep b o q), G.F.above⟩, nsT G.O, G.hB, G.hne, fun p hp => ?_, fun p hp => ?_⟩, ⟨H.cls, H.flds, ⟨_, hd₃, by simp [hsz]⟩⟩, hne, hnew⟩
  · rcases List.mem_cons.mp hp with rfl | hp
    · exact ⟨(other _ hne).trans he, (G.N _ (.head _)).2⟩
    · rcases List.mem_cons.mp hp with rfl | hp
      · exact ⟨hT₃, (G.N _ (.tail _ (.head _))).2⟩
      · have := G.N p (.tail _ (.tail _ hp))
        exact ⟨(other _ (hnew p hp).1).trans this.1, this.2⟩
  · rcases List.mem_cons.mp hp with rfl | hp
    · exact G.hn _ (.head _)
    · rcases List.mem_cons.mp hp with rfl | hp
      · exact G.hn (T, oT) (.tail _ (.head _))
      · exact G.hn p (.tail _ (.tail _ hp))
theorem field_tb {Q : Value → Shared → Prop} (X : Ex1 B L Lo mo m s.heap news c fl e) (k : ∀ T, Q (.ref T) s) : wpAny M A (field (.ref e) 1) Q E s := by
  obtain ⟨oe, T, oT, vs, ts, h1, h2, h3, _⟩ := X.tb_ne
  exact wpAny_field h1 h2 h3 (k T)
theorem came_back (hf : env.frame = some L) (X : Ex1 B L Lo mo m s.heap news c fl e)
    (k : ∀ h', Ex1 B L Lo mo m h' news c (rawInt L) e → E (.ref e) { s with heap := h' }) : cameBackBy M A env E (.ref e) s := by
  unfold cameBackBy
  refine wpAny_bind (field_tb X fun T => ?_)
  rw [if_neg (by simp)]
  rw [hf]
  first
    | exact set_flight _ X k
    | exact wpAny_bind (wpAny_pure (set_flight _ X k))
theorem pass_on {α : Type} {Q : α → Shared → Prop} {what : String} (hf : env.frame = some L) (X : Ex1 B L Lo mo m s.heap news c fl e)
    (k : ∀ h', Ex1 B L Lo mo m h' news c (rawInt L) e → E (.ref e) { s with heap := h' }) : wpAny M A (PySem.passOn what (.ref e) env : Sem α) Q E s := by
  unfold PySem.passOn
  refine wpAny_bind (field_tb X fun T => ?_)
  rw [if_neg (by simp)]
  rw [hf]
  first
    | exact wpAny_bind (set_flight _ X fun h' x => wpAny_throw (k h' x))
    | exact wpAny_bind (wpAny_pure (wpAny_bind (set_flight _ X fun h' x => wpAny_throw (k h' x))))
end
section
variable {A : Around} {B h : Heap} {L Lo : Addr} {mo m : Str → Option Value} {news : List (Addr × Obj)}
theorem Grd.ledger (G : Grd B L Lo mo m h news) : ∃ oLo, LCg.NsObj oLo mo ∧ News B L h ((Lo, oLo) :: news) := by
  obtain ⟨o, ho, hn⟩ := LCg.ns_obj G.O
  refine ⟨o, hn, fun p hp => ?_⟩
  rcases List.mem_cons.mp hp with rfl | hp
  · exact ⟨ho, G.hne, G.hB⟩
  · exact G.N p hp
theorem Grd.of {oLo : Obj} (F : Fr B L h m) (N : News B L h ((Lo, oLo) :: news)) (hO : LCg.NsObj oLo mo) (hn : ∀ p ∈ news, p.1 ≠ Lo) : Grd B L Lo mo m h news :=
  ⟨F, hO.ns (N _ (.head _)).1, (N _ (.head _)).2.2, (N _ (.head _)).2.1, fun p hp => N p (.tail _ hp), hn⟩
def HandledIn (A : Around) (news : List (Addr × Obj)) : Prop := A.handled = none ∨ ∃ e oe vs, A.handled = some (.ref e) ∧ (e, oe) ∈ news ∧ oe.data = .fields vs ∧ vs[2]? = some .none
theorem HandledIn.ok (x : HandledIn A news) (N : News B L h news) : HandledOk A h := x.imp id fun ⟨e, oe, vs, a, b, c, d⟩ => ⟨e, oe, vs, a, (N _ b).1, c, d⟩
end
end Mine
end
section
open PySem PySem.W PyProof.Rows
set_option Elab.async false
set_option maxRecDepth 100000
set_option maxHeartbeats 4000000
namespace Mine
theorem offBase : True := by
  w_top off
  exact True.intro
noncomputable abbrev KK (w : World) : Frag := Mine.hd.heap_39 w.params
noncomputable abbrev PP : Program := Challenge.rw_tv0007_01.row.prog
noncomputable abbrev VV : Program := Mine.hd.view_39
noncomputable abbrev LS : List Str := looseW VV [Str.ofString "COMPILER_FLAG_NAMES"]
/-- a map of names that says one name outright -/
theorem fr_say {h₀ h : Heap} {L : Addr} {m : Str → Option Value} {x : Str} {v : Value} (F : Fr h₀ L h m) (hv : m x = some v) : Fr h₀ L h (fun y => if y = x then some v else m y) := by
  have e : (fun y => if y = x then some v else m y) = m := by
    funext y
    by_cases h : y = x
    · subst h; simp [hv]
    · simp [h]
  rw [e]; exact F
def Says (m : Str → Option Value) : List (Str × Value) → Prop
  | [] => True
  | p :: r => m p.1 = some p.2 ∧ Says m r
theorem Says.mem {m : Str → Option Value} : ∀ {ps : List (Str × Value)}, Says m ps → ∀ p ∈ ps, m p.1 = some p.2
  | [], _, _, h => nomatch h
  | _ :: _, x, p, h => by
    rcases List.mem_cons.mp h with rfl | h
    · exact x.1
    · exact Says.mem x.2 p h
theorem fr_says {h₀ h : Heap} {L : Addr} {m : Str → Option Value} (F : Fr h₀ L h m) (ps : List (Str × Value)) (hp : Says m ps) : Fr h₀ L h (kstB m ps) := by
  have e : kstB m ps = m := by
    funext y
    exact kstB_eq hp.mem fun _ => rfl
  rw [e]; exact F
theorem kstB_says {m : Str → Option Value} {ps : List (Str × Value)} (hp : Says m ps) : kstB m ps = m := by
  funext y
  exact kstB_eq hp.mem fun _ => rfl
theorem fr_unsay {h₀ h : Heap} {L : Addr} {m : Str → Option Value} {ps : List (Str × Value)} (S : Says m ps) (F : Fr h₀ L h (kstB m ps)) : Fr h₀ L h m := by
  rw [kstB_says S] at F; exact F
theorem fr_back {h₀ h : Heap} {L : Addr} {m : Str → Option Value} {x : Str} {v : Value} (ps : List (Str × Value)) (hp : Says m ps) (F : Fr h₀ L h (fun y => if y = x then some v else kstB m ps y)) : Fr h₀ L h (fun y => if y = x then some v else m y) := by
  rw [kstB_says hp] at F; exact F
theorem fr_back2 {h₀ h : Heap} {L : Addr} {m : Str → Option Value} {x x' : Str} {v v' : Value} (ps : List (Str × Value)) (hp : Says m ps) (F : Fr h₀ L h (fun y => if y = x then some v else if y = x' then some v' else kstB m ps y)) : Fr h₀ L h (fun y => if y = x then some v else if y = x' then some v' else m y) := by
  rw [kstB_says hp] at F; exact F
theorem Says.put {m : Str → Option Value} {x : Str} {v : Value} : ∀ {ps : List (Str × Value)}, Says m ps → (∀ p ∈ ps, p.1 ≠ x) → Says (fun y => if y = x then some v else m y) ps
  | [], _, _ => trivial
  | p :: _, h, hn => ⟨by
      show (if p.1 = x then _ else _) = _
      rw [if_neg (hn p (.head _))]; exact h.1, Says.put h.2 fun q hq => hn q (.tail _ hq)⟩
@[reducible] def mOf {h₀ h : Heap} {L : Addr} {m : Str → Option Value} (_ : Fr h₀ L h m) : Str → Option Value := m
@[reducible] def newsOf {h₀ h : Heap} {L : Addr} {news : List (Addr × Obj)} (_ : News h₀ L h news) : List (Addr × Obj) := news
def Again (I : Nat → Shared → Prop) (n : Nat) (s : Shared) : Prop := ∃ m, m < n ∧ I m s
theorem while_rule {prog : Program} {w : World} {A : Around} {E : Value → Shared → Prop} {s : Shared} {test : Expr} {body orelse : List Stmt} {env : Env} {pos : Pos} {Q : Flow → Shared → Prop} (I : Nat → Shared → Prop)
    (turn : ∀ n s, I n s → wpAny (model prog w) A (PySem.isTrue test env (eval test env)) (fun b s₂ =>
        if b then wpAny (model prog w) A (execs body env) (fun f s₃ => match f with
            | .next | .cont => Again I n s₃
            | .brk => Q .next s₃
            | .ret v => Q (.ret v) s₃) (notedBy (model prog w) A env (cameBackBy (model prog w) A env E)) s₂
        else wpAny (model prog w) A (execs orelse env) Q (notedBy (model prog w) A env (cameBackBy (model prog w) A env E)) s₂)
        (notedBy (model prog w) A env (cameBackBy (model prog w) A env E)) s)
    (n : Nat) (h : I n s) : wpAny (model prog w) A (exec (.While test body orelse pos) env) Q E s := by
  refine wpAny_While (codeAny_whileLoop I (fun n s hI => ?_) n h)
  refine wpAny_mono (turn n s hI) (fun b s₂ h₂ => ?_) fun _ _ x => x
  cases b with
  | false => exact h₂
  | true =>
    simp only [if_true] at h₂ ⊢
    exact wpAny_mono h₂ (fun f s₃ h₃ => by cases f <;> exact h₃) fun _ _ x => x
/-- parts of the text -/
def nth (l : List Stmt) (n : Nat) : Stmt := l.getD n (.Pass default)
def sBody : Stmt → List Stmt
  | .FunctionDef _ _ b _ _ _ _ _ _ _ => b
  | .For _ _ b _ _ => b
  | .While _ b _ _ => b
  | .If _ b _ _ => b
  | .Try b _ _ _ _ => b
  | _ => []
def sElse : Stmt → List Stmt
  | .For _ _ _ e _ => e
  | .While _ _ e _ => e
  | .If _ _ e _ => e
  | .Try _ _ e _ _ => e
  | _ => []
def sFinal : Stmt → List Stmt
  | .Try _ _ _ f _ => f
  | _ => []
def sHand : Stmt → List Stmt
  | .Try _ (.ExceptHandler _ _ b _ :: _) _ _ _ => b
  | _ => []
def sScope : Stmt → Scope
  | .FunctionDef _ _ _ _ _ _ sc _ _ _ => sc
  | _ => { kind := .function, names := [], isGenerator := false, isCoroutine := false }
noncomputable def defBody (n : Nat) : List Stmt := sBody (nth PP.main.body n)
end Mine
end
section
open Lean Elab Tactic Meta PySem PySem.W PyProof.Rows
set_option Elab.async false
set_option maxRecDepth 100000
set_option maxHeartbeats 4000000
namespace Mine
theorem offCIsLet : True := by
  w_top off
  exact True.intro
theorem is_let_call {w : World} {A : Around} {E : Value → Shared → Prop} {s : Shared} {Q : Value → Shared → Prop} {mean : ExcName → Option Value} {mg mb : Str → Option Value} {lt d : Int} {t1 t2 : Tok}
    (X : (KK w).In s.heap) (T : Top VV LS mean mg mb s.heap) (hh : A.handled = none) (hroom : A.depth + 1 < recursionLimit)
    (hlt0 : 0 ≤ lt) (hlt1 : lt < 65536) (h0 : 0 ≤ d) (h1 : d < 16)
    (h : ∀ h' tk b, (∀ b o, s.heap.get? b = some o → h'.get? b = some o) → b = (decide (d ≠ 0) && decide (lt / 2^d.toNat % 2 = 1)) → Q (.bool b) {s with heap := h', toks := tk}) :
    wpAny (model PP w) A (call (.ref 41) [.int lt t1, .int d t2]) Q E s := by
  refine wpAny_call (call_pos_ret (by omega) (X 41 _ rfl) rfl T.nolimit (codeRec_of X (by with_unfolding_all rfl)) rfl (locs rfl) (fun h₁ F => ?_))
  have N := News.nil (h₀ := s.heap) (L := s.heap.objs.size) (h := h₁)
  k_steps
  all_goals dsimp only
  all_goals rename_i hd
  all_goals refine h _ _ _ F.keep ?_
  · have hp : (0:Int) ≤ 2 ^ d.toNat := Int.le_of_lt (Int.pow_pos (by decide))
    rw [Int.fdiv_eq_ediv_of_nonneg _ hp, Int.fmod_eq_emod_of_nonneg _ (by decide)]
    simp only [hd, ne_eq, not_false_eq_true, decide_true, Bool.true_and]
    exact Bool.eq_iff_iff.mpr (by simp)
  · subst hd; rfl
end Mine
end
section
open PySem PySem.W PyProof.Rows PySem.Calls
set_option Elab.async false
set_option maxRecDepth 100000
set_option maxHeartbeats 4000000
namespace Mine
theorem offSld1 : True := by
  w_top off
  exact True.intro
abbrev sldScope : Scope := { kind := .function, names := [(Str.ofString "expected", .local), (Str.ofString "actual", .local), (Str.ofString "i", .local), (Str.ofString "j", .local), (Str.ofString "missing", .local), (Str.ofString "unexpected", .local), (Str.ofString "e", .local), (Str.ofString "a", .local), (Str.ofString "IndexError", .globalImplicit)], isGenerator := false, isCoroutine := false, more := [] }
abbrev sldEnv (L : Addr) (cd : Value) : Env := envOf (Str.ofString "sorted_list_difference") sldScope L 21 cd
section
variable {w : World} {A : Around} {E : Value → Shared → Prop} {s : Shared} {B : Heap} {L Lo : Addr} {mo m : Str → Option Value} {news : List (Addr × Obj)} {envo : Env} {cd : Value}
theorem skipJ {p1 p2 p3 p4 p5 p6 p7 p8 p9 : Pos} {Q : Flow → Shared → Prop} {la : Addr} {vs : List Value} {ys : List Str} {x : Str} {ta tj : Tok} {j : Nat}
    (X : (KK w).In B) (hA : HandledIn A news) (hfr : A.frames = some [sldEnv L cd, envo]) (hfo : envo.frame = some Lo) (hko : envo.scope.kind = .function)
    (G : Grd B L Lo mo m s.heap news) (hl : B.IsList la vs.toArray) (hi : StrsAre vs ys) (hlen : ys.length < 2 ^ 24)
    (ma : m (Str.ofString "actual") = some (.ref la)) (mx : m (Str.ofString "a") = some (.str x ta)) (mj : m (Str.ofString "j") = some (.int (j : Int) tj)) (hj : j ≤ ys.length)
    (hQ : ∀ h' tk m' j' tj', Grd B L Lo mo m' h' news → m' (Str.ofString "j") = some (.int ((j' : Nat) : Int) tj') → (∀ y, y ≠ Str.ofString "j" → m' y = m y) → j' ≤ ys.length →
      ys.drop j' = (ys.drop j).dropWhile (· == x) → Q .next { s with heap := h', toks := tk })
    (hE : ∀ h' tk m' tj' e c, (ys.drop j).dropWhile (· == x) = [] → m' (Str.ofString "j") = some (.int (ys.length : Int) tj') → (∀ y, y ≠ Str.ofString "j" → m' y = m y) →
      (A.handled = none → c = .none) → Ex1 B L Lo mo m' h' news c (rawInt L) e → E (.ref e) { s with heap := h', toks := tk }) :
    wpAny (model PP w) A (exec (.While (.Compare (.Subscript (.Name (Str.ofString "actual") p1) (.Name (Str.ofString "j") p2) p3) [.Eq] [.Name (Str.ofString "a") p4] p5) [.AugAssign (.Name (Str.ofString "j") p6) .Add (.Constant (.int 1) 0 p7) p8] [] p9) (sldEnv L cd)) Q E s := by
  refine while_rule (fun n s' => ∃ h' tk m' j' tj', s' = { s with heap := h', toks := tk } ∧ Grd B L Lo mo m' h' news ∧ m' (Str.ofString "j") = some (.int ((j' : Nat) : Int) tj') ∧ (∀ y, y ≠ Str.ofString "j" → m' y = m y) ∧ j' ≤ ys.length ∧ (ys.drop j').dropWhile (· == x) = (ys.drop j).dropWhile (· == x) ∧ n = ys.length - j') ?_ _ ⟨s.heap, s.toks, m, j, tj, rfl, G, mj, fun _ _ => rfl, hj, rfl, rfl⟩
  rintro n s' ⟨h', tk, m', j', tj', rfl, G', mj', hm', hj', hd', rfl⟩
  have hS : Says m' [(Str.ofString "j", .int (j' : Int) tj'), (Str.ofString "a", .str x ta), (Str.ofString "actual", .ref la)] := ⟨mj', (hm' (Str.ofString "a") (by decide)).trans mx, (hm' (Str.ofString "actual") (by decide)).trans ma, trivial⟩
  have F1 := fr_says G'.F _ hS
  dsimp only [kstB] at F1
  obtain ⟨oLo, hO, N1⟩ := G'.ledger
  k_steps
  refine item_strs_x (ys := ys) (hA.ok G'.N) (hl.at fun o e => G'.F.keep _ o e) hi (by omega) (by omega) (fun hlt t' => ?_) (fun hge h₂ tk₂ e c hc hx => ?_)
  · have hlt' : j' < ys.length := by omega
    have hdr : ys.drop j' = ys.getD j' Str.empty :: ys.drop (j' + 1) := by
      rw [List.drop_eq_getElem_cons hlt']; simp [List.getD, hlt']
    k_steps
    all_goals (try dsimp only)
    · rename_i heq h₂ F2 N2
      refine ⟨_, ?_, h₂, _, _, j' + 1, _, rfl, Grd.of (fr_back _ hS F2) N2 hO G'.hn, by first | rfl | simp, fun y hy => ?_, hlt', ?_, rfl⟩
      · omega
      · show (if y = Str.ofString "j" then _ else _) = _
        rw [if_neg hy]
        exact hm' y hy
      · rw [← hd', hdr, List.dropWhile_cons]
        have heq' : (ys.getD j' Str.empty == x) = true := heq
        rw [if_pos heq']
    · rename_i hne
      refine hQ h' _ m' j' tj' G' mj' hm' hj' ?_
      have hne' : (ys.getD j' Str.empty == x) = false := hne
      rw [← hd', hdr, List.dropWhile_cons]
      rw [if_neg (by rw [hne']; decide)]
  · refine note_new hfr rfl hfo rfl hko G' hx fun h₃ X3 => came_back rfl X3 fun h₄ X4 => ?_
    have hj2 : j' = ys.length := by omega
    subst hj2
    refine hE h₄ _ m' tj' e c ?_ mj' hm' hc X4
    rw [← hd', List.drop_length]; rfl
theorem skipI {p1 p2 p3 p4 p5 p6 p7 p8 p9 : Pos} {Q : Flow → Shared → Prop} {la : Addr} {vs : List Value} {ys : List Str} {x : Str} {ta tj : Tok} {j : Nat}
    (X : (KK w).In B) (hA : HandledIn A news) (hfr : A.frames = some [sldEnv L cd, envo]) (hfo : envo.frame = some Lo) (hko : envo.scope.kind = .function)
    (G : Grd B L Lo mo m s.heap news) (hl : B.IsList la vs.toArray) (hi : StrsAre vs ys) (hlen : ys.length < 2 ^ 24)
    (ma : m (Str.ofString "expected") = some (.ref la)) (mx : m (Str.ofString "e") = some (.str x ta)) (mj : m (Str.ofString "i") = some (.int (j : Int) tj)) (hj : j ≤ ys.length)
    (hQ : ∀ h' tk m' j' tj', Grd B L Lo mo m' h' news → m' (Str.ofString "i") = some (.int ((j' : Nat) : Int) tj') → (∀ y, y ≠ Str.ofString "i" → m' y = m y) → j' ≤ ys.length →
      ys.drop j' = (ys.drop j).dropWhile (· == x) → Q .next { s with heap := h', toks := tk })
    (hE : ∀ h' tk m' tj' e c, (ys.drop j).dropWhile (· == x) = [] → m' (Str.ofString "i") = some (.int (ys.length : Int) tj') → (∀ y, y ≠ Str.ofString "i" → m' y = m y) →
      (A.handled = none → c = .none) → Ex1 B L Lo mo m' h' news c (rawInt L) e → E (.ref e) { s with heap := h', toks := tk }) :
    wpAny (model PP w) A (exec (.While (.Compare (.Subscript (.Name (Str.ofString "expected") p1) (.Name (Str.ofString "i") p2) p3) [.Eq] [.Name (Str.ofString "e") p4] p5) [.AugAssign (.Name (Str.ofString "i") p6) .Add (.Constant (.int 1) 0 p7) p8] [] p9) (sldEnv L cd)) Q E s := by
  refine while_rule (fun n s' => ∃ h' tk m' j' tj', s' = { s with heap := h', toks := tk } ∧ Grd B L Lo mo m' h' news ∧ m' (Str.ofString "i") = some (.int ((j' : Nat) : Int) tj') ∧ (∀ y, y ≠ Str.ofString "i" → m' y = m y) ∧ j' ≤ ys.length ∧ (ys.drop j').dropWhile (· == x) = (ys.drop j).dropWhile (· == x) ∧ n = ys.length - j') ?_ _ ⟨s.heap, s.toks, m, j, tj, rfl, G, mj, fun _ _ => rfl, hj, rfl, rfl⟩
  rintro n s' ⟨h', tk, m', j', tj', rfl, G', mj', hm', hj', hd', rfl⟩
  have hS : Says m' [(Str.ofString "i", .int (j' : Int) tj'), (Str.ofString "e", .str x ta), (Str.ofString "expected", .ref la)] := ⟨mj', (hm' (Str.ofString "e") (by decide)).trans mx, (hm' (Str.ofString "expected") (by decide)).trans ma, trivial⟩
  have F1 := fr_says G'.F _ hS
  dsimp only [kstB] at F1
  obtain ⟨oLo, hO, N1⟩ := G'.ledger
  k_steps
  refine item_strs_x (ys := ys) (hA.ok G'.N) (hl.at fun o e => G'.F.keep _ o e) hi (by omega) (by omega) (fun hlt t' => ?_) (fun hge h₂ tk₂ e c hc hx => ?_)
  · have hlt' : j' < ys.length := by omega
    have hdr : ys.drop j' = ys.getD j' Str.empty :: ys.drop (j' + 1) := by
      rw [List.drop_eq_getElem_cons hlt']; simp [List.getD, hlt']
    k_steps
    all_goals (try dsimp only)
    · rename_i heq h₂ F2 N2
      refine ⟨_, ?_, h₂, _, _, j' + 1, _, rfl, Grd.of (fr_back _ hS F2) N2 hO G'.hn, by first | rfl | simp, fun y hy => ?_, hlt', ?_, rfl⟩
      · omega
      · show (if y = Str.ofString "i" then _ else _) = _
        rw [if_neg hy]
        exact hm' y hy
      · rw [← hd', hdr, List.dropWhile_cons]
        have heq' : (ys.getD j' Str.empty == x) = true := heq
        rw [if_pos heq']
    · rename_i hne
      refine hQ h' _ m' j' tj' G' mj' hm' hj' ?_
      have hne' : (ys.getD j' Str.empty == x) = false := hne
      rw [← hd', hdr, List.dropWhile_cons]
      rw [if_neg (by rw [hne']; decide)]
  · refine note_new hfr rfl hfo rfl hko G' hx fun h₃ X3 => came_back rfl X3 fun h₄ X4 => ?_
    have hj2 : j' = ys.length := by omega
    subst hj2
    refine hE h₄ _ m' tj' e c ?_ mj' hm' hc X4
    rw [← hd', List.drop_length]; rfl
end
end Mine
end
section
open PySem PySem.W PyProof.Rows PySem.Calls
set_option Elab.async false
set_option maxRecDepth 100000
set_option maxHeartbeats 4000000
namespace Mine
theorem offLists : True := by
  w_top off
  exact True.intro
theorem pick_from {vs : List Value} {x : Int} (h : 0 ≤ x) : slicePick vs.toArray (some x) none none = (vs.drop x.toNat).toArray := by
  have e : sliceBounds (some x) none none vs.toArray.size = (((min x.toNat vs.toArray.size : Nat) : Int), ((vs.toArray.size : Nat) : Int), 1) := by
    simp only [sliceBounds, Option.getD_none, show (1 : Int) > 0 by decide, if_true, if_neg (show ¬ (x < 0) by omega)]
    congr 1
    omega
  rw [kmk_pick_nat _ e]
  show ((vs.drop (min x.toNat vs.toArray.size)).take (vs.toArray.size - min x.toNat vs.toArray.size)).toArray = _
  rw [List.size_toArray, kmk_drop_min, List.take_of_length_le (by rw [List.length_drop]; omega)]
theorem pick_upto {vs : List Value} {y : Int} (h : 0 ≤ y) : slicePick vs.toArray none (some y) none = (vs.take y.toNat).toArray := by
  have e : sliceBounds none (some y) none vs.toArray.size = (((0 : Nat) : Int), ((min y.toNat vs.toArray.size : Nat) : Int), 1) := by
    simp only [sliceBounds, Option.getD_none, show (1 : Int) > 0 by decide, if_true, if_neg (show ¬ (y < 0) by omega)]
    congr 1
    congr 1
    omega
  rw [kmk_pick_nat _ e]
  show ((vs.drop 0).take (min y.toNat vs.toArray.size - 0)).toArray = _
  rw [List.drop_zero, Nat.sub_zero, List.size_toArray, kmk_take_min]
theorem pick_mid {vs : List Value} {x y : Int} (h : 0 ≤ x) (h2 : 0 ≤ y) (h3 : y ≤ vs.length) : slicePick vs.toArray (some x) (some y) none = ((vs.drop x.toNat).take (y.toNat - x.toNat)).toArray := by
  have e : sliceBounds (some x) (some y) none vs.toArray.size = (((min x.toNat vs.toArray.size : Nat) : Int), ((min y.toNat vs.toArray.size : Nat) : Int), 1) := by
    simp only [sliceBounds, Option.getD_none, show (1 : Int) > 0 by decide, if_true, if_neg (show ¬ (x < 0) by omega), if_neg (show ¬ (y < 0) by omega)]
    congr 1
    · omega
    · congr 1
      omega
  rw [kmk_pick_nat _ e]
  show ((vs.drop (min x.toNat vs.toArray.size)).take (min y.toNat vs.toArray.size - min x.toNat vs.toArray.size)).toArray = _
  rw [List.size_toArray, kmk_drop_min, show min y.toNat vs.length - min x.toNat vs.length = y.toNat - min x.toNat vs.length by omega]
  by_cases hx : x.toNat ≤ vs.length
  · rw [Nat.min_eq_left hx]
  · rw [List.drop_of_length_le (by omega)]; simp
section
variable {prog : Program} {w : World} {A : Around} {E : Value → Shared → Prop} {s : Shared} {h₀ : Heap} {L D b : Addr} {m : Str → Option Value} {pre post : List (Addr × Obj)} {its its2 : List Value} {n n2 : Nat}
theorem extend_x {Q : Value → Shared → Prop} (F : Fr h₀ L s.heap m) (N : News h₀ L s.heap (pre ++ (D, listOf its.toArray n) :: post)) (hb : (b, listOf its2.toArray n2) ∈ pre ++ (D, listOf its.toArray n) :: post)
    (h1 : ∀ p ∈ pre, p.1 ≠ D) (h2 : ∀ p ∈ post, p.1 ≠ D) (hz : its.length + its2.length ≤ sizeLine)
    (h : ∀ h' n', Fr h₀ L h' m → News h₀ L h' (pre ++ (D, listOf (its ++ its2).toArray n') :: post) → Q .none { s with heap := h' }) :
    wpAny (model prog w) A (call (.builtin "list.extend") [.ref D, .ref b]) Q E s := by
  have z := N (D, listOf its.toArray n) (List.mem_append.mpr (.inr (.head _)))
  have hd : ¬(!its.toArray.isEmpty && Builtin.List.listTooLong (its.toArray.size + its2.toArray.size)) = true := by
    have : Builtin.List.listTooLong (its.toArray.size + its2.toArray.size) = false := by
      unfold Builtin.List.listTooLong
      simp only [List.size_toArray]
      exact decide_eq_false (by omega)
    rw [this]; simp
  refine call_meets PySem.F.slot_list_extend ⟨_, z.1, rfl⟩ PySem.F.entry_list_extend (PySem.F.args_list_extend_2 _ _) (PySem.AutoSeq1.list_extend_list_list_0 D its.toArray n b its2.toArray n2 hd (by rw [List.size_toArray]; omega) (by simp only [List.size_toArray]; omega)) ⟨z.1, (N _ hb).1, ?_⟩
  have e : ∃ n', Obj.mapSeq (fun x => x ++ its2.toArray) (listOf its.toArray n) = listOf (its ++ its2).toArray n' := ⟨_, by
    show ({ cls := .type "list", dict := none, data := .seq (its.toArray ++ its2.toArray) _, slots := #[] } : Obj) = _
    rw [List.append_toArray]⟩
  obtain ⟨n', e⟩ := e
  obtain ⟨F', N'⟩ := news_upd F N h1 h2 e rfl
  exact h _ n' F' N'
theorem append_x {Q : Value → Shared → Prop} {v : Value} (F : Fr h₀ L s.heap m) (N : News h₀ L s.heap (pre ++ (D, listOf its.toArray n) :: post))
    (h1 : ∀ p ∈ pre, p.1 ≠ D) (h2 : ∀ p ∈ post, p.1 ≠ D) (hz : its.length ≤ sizeLine)
    (h : ∀ h' n', Fr h₀ L h' m → News h₀ L h' (pre ++ (D, listOf (its ++ [v]).toArray n') :: post) → Q .none { s with heap := h' }) :
    wpAny (model prog w) A (call (.builtin "list.append") [.ref D, v]) Q E s := by
  have z := N (D, listOf its.toArray n) (List.mem_append.mpr (.inr (.head _)))
  refine append_at (hsz := by rw [List.size_toArray]; exact hz) z.1 fun h' hs ho' => h h' (n + 1) (F.change hs z.2.1 z.2.2) ?_
  have N' := news_set N h1 h2 hs ho'
  rw [List.push_toArray] at N'
  exact N'
end
theorem StrsAre.snoc {vs : List Value} {xs : List Str} {x : Str} {t : Tok} (h : StrsAre vs xs) : StrsAre (vs ++ [.str x t]) (xs ++ [x]) := h.append' (.cons _ _ .nil)
end Mine
end
section
open PySem PySem.W PyProof.Rows PySem.Calls
set_option Elab.async false
set_option maxRecDepth 100000
set_option maxHeartbeats 4000000
namespace Mine
theorem offSld2 : True := by
  w_top off
  exact True.intro
noncomputable def sldTry : Stmt := nth (sBody (nth (defBody 1) 3)) 0
section
variable {w : World} {A : Around} {E : Value → Shared → Prop} {s : Shared} {B : Heap} {L Lo : Addr} {mo m : Str → Option Value} {news : List (Addr × Obj)} {envo : Env} {cd : Value}
theorem finSuite {Q : Flow → Shared → Prop} {le la am au : Addr} {vs ws Mv Uv : List Value} {xs ys Ms Us : List Str} {ti tj : Tok} {i j nM nU : Nat}
    (X : (KK w).In B)
    (G : Grd B L Lo mo m s.heap [(am, listOf Mv.toArray nM), (au, listOf Uv.toArray nU)]) (hl : B.IsList le vs.toArray) (hi : StrsAre vs xs) (hl' : B.IsList la ws.toArray) (hi' : StrsAre ws ys)
    (S : Says m [(Str.ofString "i", .int (i : Int) ti), (Str.ofString "j", .int (j : Int) tj), (Str.ofString "expected", .ref le), (Str.ofString "actual", .ref la), (Str.ofString "missing", .ref am), (Str.ofString "unexpected", .ref au)])
    (hm : StrsAre Mv Ms) (hu : StrsAre Uv Us) (hne : am ≠ au) (hxl : xs.length < 2 ^ 20) (hyl : ys.length < 2 ^ 20) (hml : Ms.length < 2 ^ 20) (hul : Us.length < 2 ^ 20) (hii : i ≤ xs.length) (hjj : j ≤ ys.length)
    (hQ : ∀ h' tk Mv' Uv' nM' nU', Grd B L Lo mo m h' [(am, listOf Mv'.toArray nM'), (au, listOf Uv'.toArray nU')] → StrsAre Mv' (Ms ++ xs.drop i) → StrsAre Uv' (Us ++ ys.drop j) → Q .brk { s with heap := h', toks := tk }) :
    wpAny (model PP w) A (execs (sHand sldTry) (sldEnv L cd)) Q E s := by
  obtain ⟨oLo, hO, N1⟩ := G.ledger
  have F1 := fr_says G.F _ S
  dsimp only [kstB] at F1
  show wpAny _ _ (execs (_ :: _) _) _ _ _
  k_steps
  rename_i h₁ F2 N2
  rw [pick_from (Int.natCast_nonneg i)] at N2
  have hlo : ∀ p ∈ ([(am, listOf Mv.toArray nM), (au, listOf Uv.toArray nU)] : List (Addr × Obj)), p.1 ≠ Lo := G.hn
  have l1 := hm.len_eq
  have l2 := hu.len_eq
  have l3 := hi.len_eq
  have l4 := hi'.len_eq
  have o1 : ∀ b o, s.heap.get? b = some o → s.heap.objs.size + 1 ≠ b := fun b o q => Nat.ne_of_gt (Nat.lt_succ_of_lt (Heap.lt_size q))
  have a1 := (N1 (am, listOf Mv.toArray nM) (.tail _ (.head _))).1
  have a2 := (N1 (au, listOf Uv.toArray nU) (.tail _ (.tail _ (.head _)))).1
  refine extend_x (pre := [(s.heap.objs.size + 1, { cls := Value.type "list", data := Data.seq (vs.drop ((i : Int)).toNat).toArray }), (Lo, oLo)]) (post := [(au, listOf Uv.toArray nU)]) F2 N2 (.head _) ?_ ?_ ?_ (fun h₂ n₂ F3 N3 => ?_)
  · exact List.forall_mem_cons.mpr ⟨o1 _ _ a1, List.forall_mem_cons.mpr ⟨Ne.symm (hlo _ (.head _)), List.forall_mem_nil _⟩⟩
  · exact List.forall_mem_cons.mpr ⟨Ne.symm hne, List.forall_mem_nil _⟩
  · rw [List.length_drop]; show _ ≤ 2 ^ 24; omega
  · k_steps
    rename_i h₃ F4 N4
    rw [pick_from (Int.natCast_nonneg j)] at N4
    have o3 : ∀ b o, h₂.get? b = some o → h₂.objs.size + 1 ≠ b := fun b o q => Nat.ne_of_gt (Nat.lt_succ_of_lt (Heap.lt_size q))
    have a3 := (N3 (au, listOf Uv.toArray nU) (by simp)).1
    refine extend_x (pre := [(h₂.objs.size + 1, { cls := Value.type "list", data := Data.seq (ws.drop ((j : Int)).toNat).toArray }), (s.heap.objs.size + 1, { cls := Value.type "list", data := Data.seq (vs.drop ((i : Int)).toNat).toArray }), (Lo, oLo), (am, listOf (Mv ++ vs.drop ((i : Int)).toNat).toArray n₂)]) (post := []) F4 N4 (.head _) ?_ ?_ ?_ (fun h₅ n₅ F5 N5 => ?_)
    · exact List.forall_mem_cons.mpr ⟨o3 _ _ a3, List.forall_mem_cons.mpr ⟨o1 _ _ a2, List.forall_mem_cons.mpr ⟨Ne.symm (hlo _ (.tail _ (.head _))), List.forall_mem_cons.mpr ⟨hne, List.forall_mem_nil _⟩⟩⟩⟩
    · exact List.forall_mem_nil _
    · rw [List.length_drop]; show _ ≤ 2 ^ 24; omega
    · k_steps
      refine hQ _ _ _ _ n₂ n₅ (Grd.of (oLo := oLo) (kstB_says S ▸ F5) (fun p hp => N5 p ?_) hO ?_) (hm.append' (hi.drop' _)) (hu.append' (hi'.drop' _))
      · simp only [List.mem_cons, List.not_mem_nil, or_false] at hp
        rcases hp with rfl | rfl | rfl <;> simp
      · exact List.forall_mem_cons.mpr ⟨hlo (am, listOf Mv.toArray nM) (.head _), List.forall_mem_cons.mpr ⟨hlo (au, listOf Uv.toArray nU) (.tail _ (.head _)), List.forall_mem_nil _⟩⟩
end
end Mine
end
section
open PySem PySem.W PyProof.Rows PySem.Calls
set_option Elab.async false
set_option maxRecDepth 100000
set_option maxHeartbeats 4000000
namespace Mine
theorem offSld3 : True := by
  w_top off
  exact True.intro
def sHands : Stmt → List ExceptHandler
  | .Try _ h _ _ _ => h
  | _ => []
theorem ix_exc : isSubtype (.type "IndexError") (.type "BaseException") = pure true := isSubtype_of_subB (by decide +kernel)
theorem ix_tup : isSubtype (.type ((Manifest.find? "IndexError").elim "type" fun x => x.metatype)) (.type "tuple") = pure false := isSubtype_of_subB (by decide +kernel)
theorem ix_ix : isSubtype (.type "IndexError") (.type "IndexError") = pure true := isSubtype_of_subB (by decide +kernel)
theorem ix_boot : bootBuiltins (Str.ofString "IndexError") = some (.type "IndexError") := by decide +kernel
def slt (x y : Str) : Bool := decide (x.cps.toList < y.cps.toList)
def skip (x : Str) (l : List Str) : List Str := l.dropWhile (· == x)
theorem skip_le (x : Str) : ∀ l : List Str, (skip x l).length ≤ l.length
  | [] => Nat.le_refl _
  | y :: l => by
    unfold skip
    rw [List.dropWhile_cons]
    split
    · exact Nat.le_succ_of_le (skip_le x l)
    · exact Nat.le_refl _
/-- what sorted_list_difference tells, of any two lists -/
def sld : List Str → List Str → List Str × List Str
  | [], ys => ([], ys)
  | x :: xs, [] => (x :: xs, [])
  | x :: xs, y :: ys =>
    if slt x y then let r := sld (skip x xs) (y :: ys); (x :: r.1, r.2)
    else if slt y x then let r := sld (x :: xs) (skip y ys); (r.1, y :: r.2)
    else sld (skip x xs) (skip y ys)
termination_by xs ys => xs.length + ys.length
decreasing_by
  · have := skip_le x xs; simp only [List.length_cons]; omega
  · have := skip_le y ys; simp only [List.length_cons]; omega
  · have := skip_le x xs; have := skip_le y ys; simp only [List.length_cons]; omega
theorem sld_nil_left (ys : List Str) : sld [] ys = ([], ys) := by rw [sld]
theorem sld_nil_right : ∀ xs : List Str, sld xs [] = (xs, [])
  | [] => by rw [sld]
  | _ :: _ => by rw [sld]
section
variable {w : World} {A : Around} {E : Value → Shared → Prop} {s : Shared} {B : Heap} {L Lo : Addr} {mo m mg mb : Str → Option Value} {news : List (Addr × Obj)} {envo : Env} {cd : Value} {mean : ExcName → Option Value}
theorem caughtX {Q : Flow → Shared → Prop} {le la am au e : Addr} {vs ws Mv Uv : List Value} {xs ys Ms Us : List Str} {ti tj : Tok} {i j nM nU : Nat} {c fl : Value}
    (X : (KK w).In B) (T : Top VV LS mean mg mb B)
    (Y : Ex1 B L Lo mo m s.heap [(am, listOf Mv.toArray nM), (au, listOf Uv.toArray nU)] c fl e) (hl : B.IsList le vs.toArray) (hi : StrsAre vs xs) (hl' : B.IsList la ws.toArray) (hi' : StrsAre ws ys)
    (S : Says m [(Str.ofString "i", .int (i : Int) ti), (Str.ofString "j", .int (j : Int) tj), (Str.ofString "expected", .ref le), (Str.ofString "actual", .ref la), (Str.ofString "missing", .ref am), (Str.ofString "unexpected", .ref au)])
    (hm : StrsAre Mv Ms) (hu : StrsAre Uv Us) (hne : am ≠ au) (hxl : xs.length < 2 ^ 20) (hyl : ys.length < 2 ^ 20) (hml : Ms.length < 2 ^ 20) (hul : Us.length < 2 ^ 20) (hii : i ≤ xs.length) (hjj : j ≤ ys.length)
    (hQ : ∀ h' tk Mv' Uv' nM' nU', Grd B L Lo mo m h' [(am, listOf Mv'.toArray nM'), (au, listOf Uv'.toArray nU')] → StrsAre Mv' (Ms ++ xs.drop i) → StrsAre Uv' (Us ++ ys.drop j) → Q .brk { s with heap := h', toks := tk }) :
    wpAny (model PP w) A (handleBy (.ref e) (sldEnv L cd) (sHands sldTry)) Q E s := by
  show wpAny _ _ (handleBy _ _ (.ExceptHandler (some (.Name _ _)) none (_ :: _) _ :: _)) _ _ _
  refine wpAny_handleBy_builtin (X := "IndexError") (T := "IndexError") (b := true) ix_exc ix_tup ix_ix ?_
  obtain ⟨oe, Tb, oT, G, H, hne1, hnw⟩ := id Y
  refine nameX_B G.F X (topRead_of T) (by with_unfolding_all rfl) ix_boot (by decide) ⟨rfl, ⟨oe, (G.N _ (.head _)).1, H.cls⟩, ?_⟩
  refine set_flight none Y fun h₁ Y1 => ?_
  obtain ⟨oe1, Tb1, oT1, G1, H1, hne2, hnw2⟩ := Y1
  have G2 : Grd B L Lo mo m h₁ [(am, listOf Mv.toArray nM), (au, listOf Uv.toArray nU)] := ⟨G1.F, G1.O, G1.hB, G1.hne, fun p hp => G1.N p (.tail _ (.tail _ hp)), fun p hp => G1.hn p (.tail _ (.tail _ hp))⟩
  exact finSuite (s := { s with heap := h₁ }) X G2 hl hi hl' hi' S hm hu hne hxl hyl hml hul hii hjj hQ
end
end Mine
end
section
open PySem PySem.W PyProof.Rows PySem.Calls
set_option Elab.async false
set_option maxRecDepth 100000
set_option maxHeartbeats 4000000
namespace Mine
theorem offSld4 : True := by
  w_top off
  exact True.intro
local macro_rules | `(tactic| walk_at "pad 4 0") => `(tactic| fail)
local macro_rules | `(tactic| walk_at "pad 4 1") => `(tactic| fail)
local macro_rules | `(tactic| walk_at "pad 4 2") => `(tactic| fail)
local macro_rules | `(tactic| walk_at "my steps") => `(tactic| repeat' (first | ((fail_if_success (with_reducible show wpAny _ _ (exec (Stmt.While _ _ _ _) _) _ _ _)); (fail_if_success (with_reducible show wpAny _ _ (exec (Stmt.Try _ _ _ _ _) _) _ _ _)); (fail_if_success (with_reducible show wpAny _ _ (call (Value.builtin "list.append") _) _ _ _)); first | (k_unfold; (try dsimp only)) | walk1 | (dsimp only; walk1) | (leave1; (try dsimp only)))))
abbrev sNames (le la am au : Addr) (i j : Nat) (ti tj : Tok) : List (Str × Value) := [(Str.ofString "i", .int (i : Int) ti), (Str.ofString "j", .int (j : Int) tj), (Str.ofString "expected", .ref le), (Str.ofString "actual", .ref la), (Str.ofString "missing", .ref am), (Str.ofString "unexpected", .ref au)]
/-- what is fixed along the loop -/
structure SFix (w : World) (mean : ExcName → Option Value) (mg mb : Str → Option Value) (B : Heap) (le la am au : Addr) (vs ws : List Value) (xs ys : List Str) : Prop where
  X : (KK w).In B
  T : Top VV LS mean mg mb B
  hl : B.IsList le vs.toArray
  hi : StrsAre vs xs
  hl' : B.IsList la ws.toArray
  hi' : StrsAre ws ys
  hne : am ≠ au
  hxl : xs.length < 2 ^ 20
  hyl : ys.length < 2 ^ 20
structure SInv (B : Heap) (L Lo : Addr) (mo : Str → Option Value) (le la am au : Addr) (xs ys : List Str) (T : List Str × List Str) (m : Str → Option Value) (h : Heap) (i j : Nat) (Ms Us : List Str) (Mv Uv : List Value) (nM nU : Nat) (ti tj : Tok) : Prop where
  G : Grd B L Lo mo m h [(am, listOf Mv.toArray nM), (au, listOf Uv.toArray nU)]
  hm : StrsAre Mv Ms
  hu : StrsAre Uv Us
  S : Says m (sNames le la am au i j ti tj)
  hii : i ≤ xs.length
  hjj : j ≤ ys.length
  hml : Ms.length ≤ i
  hul : Us.length ≤ j
  t1 : Ms ++ (sld (xs.drop i) (ys.drop j)).1 = T.1
  t2 : Us ++ (sld (xs.drop i) (ys.drop j)).2 = T.2
theorem sld_lt {x y : Str} {xs ys : List Str} (h : slt x y = true) : sld (x :: xs) (y :: ys) = (x :: (sld (skip x xs) (y :: ys)).1, (sld (skip x xs) (y :: ys)).2) := by
  rw [sld, if_pos h]
theorem sld_gt {x y : Str} {xs ys : List Str} (h1 : slt x y = false) (h : slt y x = true) : sld (x :: xs) (y :: ys) = ((sld (x :: xs) (skip y ys)).1, y :: (sld (x :: xs) (skip y ys)).2) := by
  rw [sld, if_neg (by rw [h1]; decide), if_pos h]
theorem sld_eq {x y : Str} {xs ys : List Str} (h1 : slt x y = false) (h : slt y x = false) : sld (x :: xs) (y :: ys) = sld (skip x xs) (skip y ys) := by
  rw [sld, if_neg (by rw [h1]; decide), if_neg (by rw [h]; decide)]
theorem skip_drop_le {x : Str} {xs : List Str} {i j : Nat} (h : xs.drop j = (xs.drop i).dropWhile (· == x)) (hj : j ≤ xs.length) (hi : i ≤ xs.length) : i ≤ j := by
  have h1 : (xs.drop j).length ≤ (xs.drop i).length := by rw [h]; exact skip_le x _
  rw [List.length_drop, List.length_drop] at h1
  omega
theorem Ex1.sub {B h : Heap} {L Lo e : Addr} {mo m : Str → Option Value} {news news' : List (Addr × Obj)} {c fl : Value} (Y : Ex1 B L Lo mo m h news c fl e) (hs : ∀ p ∈ news', p ∈ news) : Ex1 B L Lo mo m h news' c fl e := by
  obtain ⟨oe, T, oT, G, H, h1, h2⟩ := Y
  refine ⟨oe, T, oT, ⟨G.F, G.O, G.hB, G.hne, fun p hp => G.N p ?_, fun p hp => G.hn p ?_⟩, H, h1, fun p hp => h2 p (hs p hp)⟩ <;>
  · rcases List.mem_cons.mp hp with rfl | hp
    · exact .head _
    · rcases List.mem_cons.mp hp with rfl | hp
      · exact .tail _ (.head _)
      · exact .tail _ (.tail _ (hs p hp))
section
variable {w : World} {A : Around} {E : Value → Shared → Prop} {s : Shared} {B : Heap} {L Lo : Addr} {mo m mg mb : Str → Option Value} {news : List (Addr × Obj)} {envo : Env} {cd : Value} {mean : ExcName → Option Value}
  {le la am au e : Addr} {vs ws Mv Uv : List Value} {xs ys Ms Us : List Str} {ti tj : Tok} {i j nM nU : Nat} {c fl : Value} {T : List Str × List Str} {Q : Flow → Shared → Prop}
/-- the handler's way, from an exception that flies here -/
theorem catchOld (K : SFix w mean mg mb B le la am au vs ws xs ys) (Y : Ex1 B L Lo mo m s.heap [(am, listOf Mv.toArray nM), (au, listOf Uv.toArray nU)] c (rawInt L) e)
    (S : Says m (sNames le la am au i j ti tj)) (hm : StrsAre Mv Ms) (hu : StrsAre Uv Us) (hii : i ≤ xs.length) (hjj : j ≤ ys.length) (hml : Ms.length ≤ i) (hul : Us.length ≤ j)
    (t1 : Ms ++ xs.drop i = T.1) (t2 : Us ++ ys.drop j = T.2)
    (hB : ∀ h' tk m' Mv' Uv' nM' nU', Grd B L Lo mo m' h' [(am, listOf Mv'.toArray nM'), (au, listOf Uv'.toArray nU')] → Says m' [(Str.ofString "missing", .ref am), (Str.ofString "unexpected", .ref au)] → StrsAre Mv' T.1 → StrsAre Uv' T.2 → Q .brk { s with heap := h', toks := tk }) :
    wpAny (model PP w) A (noteFrame (.ref e) (sldEnv L cd)) (fun _ s₂ => wpAny (model PP w) A (setFlight (.ref e) none) (fun _ s₃ => wpAny (model PP w) A (handleBy (.ref e) (sldEnv L cd) (sHands sldTry)) Q E s₃) E s₂) E s := by
  refine note_again rfl Y (set_flight none Y fun h₁ Y1 => ?_)
  refine caughtX (s := { s with heap := h₁ }) K.X K.T Y1 K.hl K.hi K.hl' K.hi' S hm hu K.hne K.hxl K.hyl (Nat.lt_of_le_of_lt (Nat.le_trans hml hii) K.hxl) (Nat.lt_of_le_of_lt (Nat.le_trans hul hjj) K.hyl) hii hjj fun h' tk Mv' Uv' nM' nU' G' hm' hu' => ?_
  exact hB h' tk m Mv' Uv' nM' nU' G' ⟨S.2.2.2.2.1, S.2.2.2.2.2.1, trivial⟩ (t1 ▸ hm') (t2 ▸ hu')
theorem catchNew {h : Heap} (K : SFix w mean mg mb B le la am au vs ws xs ys) (hfr : A.frames = some [sldEnv L cd, envo]) (hfo : envo.frame = some Lo) (hko : envo.scope.kind = .function)
    (G : Grd B L Lo mo m h [(am, listOf Mv.toArray nM), (au, listOf Uv.toArray nU)]) (hx : NewX h s.heap e c)
    (S : Says m (sNames le la am au i j ti tj)) (hm : StrsAre Mv Ms) (hu : StrsAre Uv Us) (hii : i ≤ xs.length) (hjj : j ≤ ys.length) (hml : Ms.length ≤ i) (hul : Us.length ≤ j)
    (t1 : Ms ++ xs.drop i = T.1) (t2 : Us ++ ys.drop j = T.2)
    (hB : ∀ h' tk m' Mv' Uv' nM' nU', Grd B L Lo mo m' h' [(am, listOf Mv'.toArray nM'), (au, listOf Uv'.toArray nU')] → Says m' [(Str.ofString "missing", .ref am), (Str.ofString "unexpected", .ref au)] → StrsAre Mv' T.1 → StrsAre Uv' T.2 → Q .brk { s with heap := h', toks := tk }) :
    wpAny (model PP w) A (noteFrame (.ref e) (sldEnv L cd)) (fun _ s₂ => wpAny (model PP w) A (setFlight (.ref e) none) (fun _ s₃ => wpAny (model PP w) A (handleBy (.ref e) (sldEnv L cd) (sHands sldTry)) Q E s₃) E s₂) E s := by
  refine note_new hfr rfl hfo rfl hko G hx fun h₁ Y1 => set_flight none Y1 fun h₂ Y2 => ?_
  refine caughtX (s := { s with heap := h₂ }) K.X K.T Y2 K.hl K.hi K.hl' K.hi' S hm hu K.hne K.hxl K.hyl (Nat.lt_of_le_of_lt (Nat.le_trans hml hii) K.hxl) (Nat.lt_of_le_of_lt (Nat.le_trans hul hjj) K.hyl) hii hjj fun h' tk Mv' Uv' nM' nU' G' hm' hu' => ?_
  exact hB h' tk m Mv' Uv' nM' nU' G' ⟨S.2.2.2.2.1, S.2.2.2.2.2.1, trivial⟩ (t1 ▸ hm') (t2 ▸ hu')
theorem sldTurn (K : SFix w mean mg mb B le la am au vs ws xs ys) (hA : A.handled = none) (hfr : A.frames = some [sldEnv L cd, envo]) (hfo : envo.frame = some Lo) (hko : envo.scope.kind = .function)
    (I : SInv B L Lo mo le la am au xs ys T m s.heap i j Ms Us Mv Uv nM nU ti tj)
    (hN : ∀ h' tk m' i' j' Ms' Us' Mv' Uv' nM' nU' ti' tj', SInv B L Lo mo le la am au xs ys T m' h' i' j' Ms' Us' Mv' Uv' nM' nU' ti' tj' → i + j < i' + j' → Q .next { s with heap := h', toks := tk })
    (hB : ∀ h' tk m' Mv' Uv' nM' nU', Grd B L Lo mo m' h' [(am, listOf Mv'.toArray nM'), (au, listOf Uv'.toArray nU')] → Says m' [(Str.ofString "missing", .ref am), (Str.ofString "unexpected", .ref au)] → StrsAre Mv' T.1 → StrsAre Uv' T.2 → Q .brk { s with heap := h', toks := tk }) :
    wpAny (model PP w) A (exec sldTry (sldEnv L cd)) Q E s := by
  have hHI : HandledIn A [(am, listOf Mv.toArray nM), (au, listOf Uv.toArray nU)] := .inl hA
  refine wpAny_Try_except ?_
  show wpAny _ _ (execs (_ :: _) _) _ _ _
  obtain ⟨oLo, hO, N1⟩ := I.G.ledger
  have X := K.X
  have F1 := fr_says I.G.F _ I.S
  dsimp only [sNames, kstB] at F1
  k_steps
  have hxl := K.hxl
  have hyl := K.hyl
  have hii := I.hii
  have hjj := I.hjj
  refine item_strs_x (ys := xs) (hHI.ok I.G.N) (K.hl.at fun o e => I.G.F.keep _ o e) K.hi (by omega) (by omega) (fun hlt t' => ?_) (fun hge h₂ tk₂ e c hc hx => ?_)
  · have hlt' : i < xs.length := by omega
    have hdx : xs.drop i = xs.getD i Str.empty :: xs.drop (i + 1) := by
      rw [List.drop_eq_getElem_cons hlt']; simp [List.getD, hlt']
    k_steps
    rename_i h₂ F2 N2
    have hni : ∀ p ∈ sNames le la am au i j ti tj, p.1 ≠ Str.ofString "e" := by
      intro p hp
      simp only [sNames, List.mem_cons, List.not_mem_nil, or_false] at hp
      rcases hp with rfl | rfl | rfl | rfl | rfl | rfl <;> (show Str.ofString _ ≠ Str.ofString _) <;> decide
    have hnj : ∀ p ∈ sNames le la am au i j ti tj, p.1 ≠ Str.ofString "a" := by
      intro p hp
      simp only [sNames, List.mem_cons, List.not_mem_nil, or_false] at hp
      rcases hp with rfl | rfl | rfl | rfl | rfl | rfl <;> (show Str.ofString _ ≠ Str.ofString _) <;> decide
    have G2 := Grd.of (fr_back _ I.S F2) N2 hO I.G.hn
    have S2 := I.S.put (v := .str (xs.getD i Str.empty) t') hni
    refine item_strs_x (ys := ys) (hHI.ok G2.N) (K.hl'.at fun o e => G2.F.keep _ o e) K.hi' (by omega) (by omega) (fun hlt2 t2' => ?_) (fun hge h₃ tk₃ e c hc hx => ?_)
    · have hlt2' : j < ys.length := by omega
      have hdy : ys.drop j = ys.getD j Str.empty :: ys.drop (j + 1) := by
        rw [List.drop_eq_getElem_cons hlt2']; simp [List.getD, hlt2']
      have q1 : Lo ≠ am := Ne.symm (I.G.hn _ (.head _))
      have q2 : Lo ≠ au := Ne.symm (I.G.hn _ (.tail _ (.head _)))
      have q3 : am ≠ au := K.hne
      have hms : Mv.toArray.size ≤ sizeLine := by
        rw [List.size_toArray, I.hm.len_eq, sizeLine_eq]; have := I.hml; omega
      have hus : Uv.toArray.size ≤ sizeLine := by
        rw [List.size_toArray, I.hu.len_eq, sizeLine_eq]; have := I.hul; omega
      have hpost : ∀ p ∈ ([(au, listOf Uv.toArray nU)] : List (Addr × Obj)), p.1 ≠ am := List.forall_mem_cons.mpr ⟨Ne.symm q3, List.forall_mem_nil _⟩
      have hpre : ∀ p ∈ ([(Lo, oLo)] : List (Addr × Obj)), p.1 ≠ am := List.forall_mem_cons.mpr ⟨q1, List.forall_mem_nil _⟩
      have hpre2 : ∀ p ∈ ([(Lo, oLo), (am, listOf Mv.toArray nM)] : List (Addr × Obj)), p.1 ≠ au := List.forall_mem_cons.mpr ⟨q2, List.forall_mem_cons.mpr ⟨q3, List.forall_mem_nil _⟩⟩
      have t1 := I.t1
      have t2 := I.t2
      rw [hdx, hdy] at t1 t2
      have hloA : ∀ (M' U' : List Value) (n n' : Nat), ∀ p ∈ ([(am, listOf M'.toArray n), (au, listOf U'.toArray n')] : List (Addr × Obj)), p.1 ≠ Lo := fun _ _ _ _ => List.forall_mem_cons.mpr ⟨Ne.symm q1, List.forall_mem_cons.mpr ⟨Ne.symm q2, List.forall_mem_nil _⟩⟩
      walk_at "my steps"
      · rename_i h₃ F3 N3 hc
        have hc' : slt (xs.getD i Str.empty) (ys.getD j Str.empty) = true := decide_eq_true hc
        rw [sld_lt hc'] at t1 t2
        refine append_x (pre := [(Lo, oLo)]) (post := [(au, listOf Uv.toArray nU)]) F3 N3 hpre hpost (by rw [List.size_toArray] at hms; exact hms) (fun h₄ n₄ F4 N4 => ?_)
        walk_at "my steps"
        rename_i h₅ F5 N5
        have G5 := Grd.of F5 N5 hO (hloA _ _ _ _)
        have hmm := I.hml
        refine skipI (j := i + 1) K.X (.inl hA) hfr hfo hko G5 K.hl K.hi (by omega) (by rfl) (by rfl) (by rfl) hlt' (fun h₆ tk₆ m₆ i' ti' G6 mi hm6 hi6 hd6 => ?_) (fun h₆ tk₆ m₆ ti' e c hd6 mi hm6 hc6 Y6 => ?_)
        · have hle := skip_drop_le hd6 hi6 hlt'
          have S6 : Says m₆ (sNames le la am au i' j ti' tj) := ⟨mi, hm6 (Str.ofString "j") (by decide), hm6 (Str.ofString "expected") (by decide), hm6 (Str.ofString "actual") (by decide), hm6 (Str.ofString "missing") (by decide), hm6 (Str.ofString "unexpected") (by decide), trivial⟩
          repeat (first | refine wpAny_execs_nil ?_ | dsimp only)
          refine hN h₆ _ m₆ i' j (Ms ++ [xs.getD i Str.empty]) Us _ _ n₄ nU ti' tj ⟨G6, (Mine.StrsAre.snoc I.hm), I.hu, S6, hi6, hjj, by rw [List.length_append, List.length_singleton]; omega, I.hul, ?_, ?_⟩ (by omega)
          · rw [hd6, hdy, List.append_assoc]; exact t1
          · rw [hd6, hdy]; exact t2
        · have S6 : Says m₆ (sNames le la am au xs.length j ti' tj) := ⟨mi, hm6 (Str.ofString "j") (by decide), hm6 (Str.ofString "expected") (by decide), hm6 (Str.ofString "actual") (by decide), hm6 (Str.ofString "missing") (by decide), hm6 (Str.ofString "unexpected") (by decide), trivial⟩
          have hd6' : skip (xs.getD i Str.empty) (xs.drop (i + 1)) = [] := hd6
          rw [hd6', sld_nil_left] at t1 t2
          refine catchOld (Ms := Ms ++ [xs.getD i Str.empty]) (Us := Us) K Y6 S6 (Mine.StrsAre.snoc I.hm) I.hu (Nat.le_refl _) hjj (by rw [List.length_append, List.length_singleton]; omega) I.hul ?_ ?_ (fun h' tk m' Mv' Uv' nM' nU' a b c d => hB h' tk m' Mv' Uv' nM' nU' a b c d)
          · rw [List.drop_length, List.append_nil]; exact t1
          · rw [hdy]; exact t2
      · rename_i h₃ F3 N3 hc1 hc
        have hc1' : slt (xs.getD i Str.empty) (ys.getD j Str.empty) = false := decide_eq_false hc1
        have hc' : slt (ys.getD j Str.empty) (xs.getD i Str.empty) = true := decide_eq_true hc
        rw [sld_gt hc1' hc'] at t1 t2
        refine append_x (pre := [(Lo, oLo), (am, listOf Mv.toArray nM)]) (post := []) F3 N3 hpre2 (List.forall_mem_nil _) (by rw [List.size_toArray] at hus; exact hus) (fun h₄ n₄ F4 N4 => ?_)
        walk_at "my steps"
        rename_i h₅ F5 N5
        have G5 := Grd.of F5 N5 hO (hloA _ _ _ _)
        have hmm := I.hul
        refine skipJ (j := j + 1) K.X (.inl hA) hfr hfo hko G5 K.hl' K.hi' (by omega) (by rfl) (by rfl) (by rfl) hlt2' (fun h₆ tk₆ m₆ i' ti' G6 mi hm6 hi6 hd6 => ?_) (fun h₆ tk₆ m₆ ti' e c hd6 mi hm6 hc6 Y6 => ?_)
        · have hle := skip_drop_le hd6 hi6 hlt2'
          have S6 : Says m₆ (sNames le la am au i i' ti ti') := ⟨hm6 (Str.ofString "i") (by decide), mi, hm6 (Str.ofString "expected") (by decide), hm6 (Str.ofString "actual") (by decide), hm6 (Str.ofString "missing") (by decide), hm6 (Str.ofString "unexpected") (by decide), trivial⟩
          repeat (first | refine wpAny_execs_nil ?_ | dsimp only)
          refine hN h₆ _ m₆ i i' Ms (Us ++ [ys.getD j Str.empty]) _ _ nM n₄ ti ti' ⟨G6, I.hm, (Mine.StrsAre.snoc I.hu), S6, hii, hi6, I.hml, by rw [List.length_append, List.length_singleton]; omega, ?_, ?_⟩ (by omega)
          · rw [hd6, hdx]; exact t1
          · rw [hd6, hdx, List.append_assoc]; exact t2
        · have S6 : Says m₆ (sNames le la am au i ys.length ti ti') := ⟨hm6 (Str.ofString "i") (by decide), mi, hm6 (Str.ofString "expected") (by decide), hm6 (Str.ofString "actual") (by decide), hm6 (Str.ofString "missing") (by decide), hm6 (Str.ofString "unexpected") (by decide), trivial⟩
          have hd6' : skip (ys.getD j Str.empty) (ys.drop (j + 1)) = [] := hd6
          rw [hd6', sld_nil_right] at t1 t2
          refine catchOld (Ms := Ms) (Us := Us ++ [ys.getD j Str.empty]) K Y6 S6 I.hm (Mine.StrsAre.snoc I.hu) hii (Nat.le_refl _) I.hml (by rw [List.length_append, List.length_singleton]; omega) ?_ ?_ (fun h' tk m' Mv' Uv' nM' nU' a b c d => hB h' tk m' Mv' Uv' nM' nU' a b c d)
          · rw [hdx]; exact t1
          · rw [List.drop_length, List.append_nil]; exact t2
      · rename_i hc1 hc2 h₅ F5 N5
        have hc1' : slt (xs.getD i Str.empty) (ys.getD j Str.empty) = false := decide_eq_false hc1
        have hc2' : slt (ys.getD j Str.empty) (xs.getD i Str.empty) = false := decide_eq_false hc2
        rw [sld_eq hc1' hc2'] at t1 t2
        have G5 := Grd.of F5 N5 hO (hloA _ _ _ _)
        refine wpAny_Try_finally (wpAny_execs_cons ?_)
        refine skipI (j := i + 1) K.X (.inl hA) hfr hfo hko G5 K.hl K.hi (by omega) (by rfl) (by rfl) (by rfl) hlt' (fun h₆ tk₆ m₆ i' ti' G6 mi hm6 hi6 hd6 => ?_) (fun h₆ tk₆ m₆ ti' e c hd6 mi hm6 hc6 Y6 => ?_)
        · have hle := skip_drop_le hd6 hi6 hlt'
          repeat (first | refine wpAny_execs_nil ?_ | dsimp only)
          obtain ⟨oLo6, hO6, N6⟩ := G6.ledger
          have S6 : Says m₆ (sNames le la am au i' j ti' tj) := ⟨mi, hm6 (Str.ofString "j") (by decide), hm6 (Str.ofString "expected") (by decide), hm6 (Str.ofString "actual") (by decide), hm6 (Str.ofString "missing") (by decide), hm6 (Str.ofString "unexpected") (by decide), trivial⟩
          have S6a : Says m₆ ((Str.ofString "a", .str (ys.getD j Str.empty) t2') :: sNames le la am au i' j ti' tj) := ⟨hm6 (Str.ofString "a") (by decide), S6⟩
          have F6 := fr_says G6.F _ S6a
          dsimp only [sNames, kstB] at F6
          walk_at "my steps"
          rename_i h₇ F7 N7
          have G7 := Grd.of F7 N7 hO6 (hloA _ _ _ _)
          refine skipJ (j := j + 1) K.X (.inl hA) hfr hfo hko G7 K.hl' K.hi' (by omega) (by rfl) (by rfl) (by rfl) hlt2' (fun h₈ tk₈ m₈ j' tj' G8 mj hm8 hj8 hd8 => ?_) (fun h₈ tk₈ m₈ tj' e c hd8 mj hm8 hc8 Y8 => ?_)
          · have hle8 := skip_drop_le hd8 hj8 hlt2'
            have S8 : Says m₈ (sNames le la am au i' j' ti' tj') := ⟨hm8 (Str.ofString "i") (by decide), mj, hm8 (Str.ofString "expected") (by decide), hm8 (Str.ofString "actual") (by decide), hm8 (Str.ofString "missing") (by decide), hm8 (Str.ofString "unexpected") (by decide), trivial⟩
            have hml := I.hml
            have hul := I.hul
            repeat (first | refine wpAny_execs_nil ?_ | dsimp only)
            refine hN h₈ _ m₈ i' j' Ms Us _ _ nM nU ti' tj' ⟨G8, I.hm, I.hu, S8, hi6, hj8, by omega, by omega, ?_, ?_⟩ (by omega)
            · rw [hd6, hd8]; exact t1
            · rw [hd6, hd8]; exact t2
          · have S8 : Says m₈ (sNames le la am au i' ys.length ti' tj') := ⟨hm8 (Str.ofString "i") (by decide), mj, hm8 (Str.ofString "expected") (by decide), hm8 (Str.ofString "actual") (by decide), hm8 (Str.ofString "missing") (by decide), hm8 (Str.ofString "unexpected") (by decide), trivial⟩
            have hd8' : skip (ys.getD j Str.empty) (ys.drop (j + 1)) = [] := hd8
            have hd6' : xs.drop i' = skip (xs.getD i Str.empty) (xs.drop (i + 1)) := hd6
            have hml := I.hml
            have hul := I.hul
            rw [hd8', sld_nil_right] at t1 t2
            refine note_again rfl Y8 (came_back rfl Y8 fun h₉ Y9 => ?_)
            refine catchOld (Ms := Ms) (Us := Us) K Y9 S8 I.hm I.hu hi6 (Nat.le_refl _) (by omega) (by omega) ?_ ?_ (fun h' tk m' Mv' Uv' nM' nU' a b c d => hB h' tk m' Mv' Uv' nM' nU' a b c d)
            · rw [hd6']; exact t1
            · rw [List.drop_length]; exact t2
        · have hd6' : skip (xs.getD i Str.empty) (xs.drop (i + 1)) = [] := hd6
          rw [hd6', sld_nil_left] at t1 t2
          have hcn : c = .none := hc6 hA
          subst hcn
          have hml := I.hml
          have hul := I.hul
          refine note_again rfl Y6 ⟨ref_ne_byPass e, note_again rfl Y6 (set_flight none Y6 fun h₇ Y7 => ?_)⟩
          obtain ⟨oe, T7, oT, G7, H7, hne7, hnw7⟩ := Y7
          obtain ⟨oLo7, hO7, N7⟩ := G7.ledger
          have S6 : Says m₆ (sNames le la am au xs.length j ti' tj) := ⟨mi, hm6 (Str.ofString "j") (by decide), hm6 (Str.ofString "expected") (by decide), hm6 (Str.ofString "actual") (by decide), hm6 (Str.ofString "missing") (by decide), hm6 (Str.ofString "unexpected") (by decide), trivial⟩
          have S6a : Says m₆ ((Str.ofString "a", .str (ys.getD j Str.empty) t2') :: sNames le la am au xs.length j ti' tj) := ⟨hm6 (Str.ofString "a") (by decide), S6⟩
          have F7 := fr_says G7.F _ S6a
          dsimp only [sNames, kstB] at F7
          walk_at "my steps"
          rename_i h₈ F8 N8
          have G8 := Grd.of F8 N8 hO7 G7.hn
          obtain ⟨vs7, hv1, hv2, hv3, hv4⟩ := H7.flds
          refine skipJ (A := A.mark (some (.ref e))) (j := j + 1) K.X (.inr ⟨e, oe, vs7, rfl, .head _, hv1, hv4⟩) hfr hfo hko G8 K.hl' K.hi' (by omega) (by rfl) (by rfl) (by rfl) hlt2' (fun h₉ tk₉ m₉ j' tj' G9 mj hm9 hj9 hd9 => ?_) (fun h₉ tk₉ m₉ tj' e2 c2 hd9 mj hm9 hc9 Y9 => ?_)
          · have hle9 := skip_drop_le hd9 hj9 hlt2'
            have S9 : Says m₉ (sNames le la am au xs.length j' ti' tj') := ⟨hm9 (Str.ofString "i") (by decide), mj, hm9 (Str.ofString "expected") (by decide), hm9 (Str.ofString "actual") (by decide), hm9 (Str.ofString "missing") (by decide), hm9 (Str.ofString "unexpected") (by decide), trivial⟩
            repeat (first | refine wpAny_execs_nil ?_ | dsimp only)
            have Y9 : Ex1 B L Lo mo m₉ h₉ [(am, listOf Mv.toArray nM), (au, listOf Uv.toArray nU)] .none .none e := ⟨oe, T7, oT, G9, H7, hne7, hnw7⟩
            refine pass_on (s := { s with heap := h₉, toks := tk₉ }) rfl Y9 fun h₁₀ Y10 => ?_
            have hd9' : ys.drop j' = skip (ys.getD j Str.empty) (ys.drop (j + 1)) := hd9
            refine catchOld (Ms := Ms) (Us := Us) K Y10 S9 I.hm I.hu (Nat.le_refl _) hj9 (by omega) (by omega) ?_ ?_ (fun h' tk m' Mv' Uv' nM' nU' a b c d => hB h' tk m' Mv' Uv' nM' nU' a b c d)
            · rw [List.drop_length]; exact t1
            · rw [hd9']; exact t2
          · have S9 : Says m₉ (sNames le la am au xs.length ys.length ti' tj') := ⟨hm9 (Str.ofString "i") (by decide), mj, hm9 (Str.ofString "expected") (by decide), hm9 (Str.ofString "actual") (by decide), hm9 (Str.ofString "missing") (by decide), hm9 (Str.ofString "unexpected") (by decide), trivial⟩
            have hd9' : skip (ys.getD j Str.empty) (ys.drop (j + 1)) = [] := hd9
            rw [hd9'] at t2
            refine note_again rfl Y9 (came_back rfl Y9 fun h₁₀ Y10 => ?_)
            refine catchOld (Ms := Ms) (Us := Us) K (Y10.sub (fun p hp => .tail _ (.tail _ hp))) S9 I.hm I.hu (Nat.le_refl _) (Nat.le_refl _) (by omega) (by omega) ?_ ?_ (fun h' tk m' Mv' Uv' nM' nU' a b c d => hB h' tk m' Mv' Uv' nM' nU' a b c d)
            · rw [List.drop_length]; exact t1
            · rw [List.drop_length]; exact t2
    · have hnil : ys.drop j = [] := List.drop_of_length_le (by omega)
      have t1 := I.t1
      have t2 := I.t2
      rw [hnil, sld_nil_right] at t1 t2
      exact catchNew (s := { s with heap := h₃, toks := tk₃ }) K hfr hfo hko G2 hx S2 I.hm I.hu I.hii I.hjj I.hml I.hul t1 (by rw [hnil]; exact t2) hB
  · have hnil : xs.drop i = [] := List.drop_of_length_le (by omega)
    have t1 := I.t1
    have t2 := I.t2
    rw [hnil, sld_nil_left] at t1 t2
    refine catchNew K hfr hfo hko I.G hx I.S I.hm I.hu I.hii I.hjj I.hml I.hul (by rw [hnil]; exact t1) t2 hB
end
end Mine
end
section
open PySem PySem.W PyProof.Rows PySem.Calls
set_option Elab.async false
set_option maxRecDepth 100000
set_option maxHeartbeats 4000000
namespace Mine
theorem offSld5 : True := by
  w_top off
  exact True.intro
local macro_rules | `(tactic| walk_at "pad 5 0") => `(tactic| fail)
local macro_rules | `(tactic| walk_at "pad 5 1") => `(tactic| fail)
local macro_rules | `(tactic| walk_at "pad 5 2") => `(tactic| fail)
local macro_rules | `(tactic| walk_at "pad 5 3") => `(tactic| fail)
local macro_rules | `(tactic| walk_at "my steps") => `(tactic| repeat' (first | ((fail_if_success (with_reducible show wpAny _ _ (exec (Stmt.While _ _ _ _) _) _ _ _)); (fail_if_success (with_reducible show wpAny _ _ (exec (Stmt.Try _ _ _ _ _) _) _ _ _)); (fail_if_success (with_reducible show wpAny _ _ (call (Value.builtin "list.append") _) _ _ _)); first | (k_unfold; (try dsimp only)) | walk1 | (dsimp only; walk1) | (leave1; (try dsimp only)))))
section
variable {w : World} {A : Around} {E : Value → Shared → Prop} {s : Shared} {h₀ : Heap} {Lo : Addr} {mo mg mb : Str → Option Value} {news : List (Addr × Obj)} {envo : Env} {mean : ExcName → Option Value} {le la : Addr} {vs ws : List Value} {xs ys : List Str} {Q : Value → Shared → Prop}
theorem sld_call (hh : A.handled = none) (hfr : A.frames = some [envo]) (hfo : envo.frame = some Lo) (hko : envo.scope.kind = .function) (hroom : A.depth < recursionLimit)
    (F : Fr h₀ Lo s.heap mo) (N : News h₀ Lo s.heap news) (X : (KK w).In h₀) (T : Top VV LS mean mg mb h₀)
    (hl : s.heap.IsList le vs.toArray) (hi : StrsAre vs xs) (hl' : s.heap.IsList la ws.toArray) (hi' : StrsAre ws ys) (hxl : xs.length < 2 ^ 20) (hyl : ys.length < 2 ^ 20)
    (h : ∀ h' tk r am au ms us nm nu, Fr h₀ Lo h' mo → News h₀ Lo h' ((r, { cls := .type "tuple", data := .seq [Value.ref am, Value.ref au].toArray }) :: (am, listOf ms.toArray nm) :: (au, listOf us.toArray nu) :: news) → StrsAre ms (sld xs ys).1 → StrsAre us (sld xs ys).2 → Q (.ref r) { s with heap := h', toks := tk }) :
    wpAny (model PP w) A (call (.ref 21) [.ref le, .ref la]) Q E s := by
  have hLo₀ : h₀.get? Lo = none := kts_self F
  have up : ∀ b o, h₀.get? b = some o → (hideAll s.heap [Lo]).get? b = some o := fun b o e => hideAll_get _ (F.keep b o e) (fun q => by rw [List.mem_singleton.mp q, hLo₀] at e; cases e)
  have hdat : ∀ {a : Addr} {its : Array Value}, s.heap.IsList a its → (hideAll s.heap [Lo]).IsList a its := fun {a its} x => x.at fun o e => hideAll_get _ e (fun q => by
    obtain ⟨oL, es, ep, ho, hd, _⟩ := F.ns
    obtain ⟨o', ho', _, n, hd'⟩ := x
    rw [List.mem_singleton.mp q, ho] at ho'
    cases ho'
    rw [hd] at hd'; cases hd')
  have hB : (hideAll s.heap [Lo]).get? Lo = none := hideAll_none _ (.head _)
  have XB : (KK w).In (hideAll s.heap [Lo]) := X.keeps up
  have TB : Top VV LS mean mg mb (hideAll s.heap [Lo]) := T.keeps up
  refine wpAny_call (codeAny_call_def (binds := [(Str.ofString "expected", .ref le), (Str.ofString "actual", .ref la)]) hroom (X.keeps F.keep 21 _ rfl) rfl (T.nolimit.keeps F.keep) (codeRec_of (X.keeps F.keep) (by with_unfolding_all rfl)) rfl (BindsTo.of_eq rfl) (by decide) (locs (by rfl)) fun h₁ hns hk₁ => ?_)
  have G0 : Grd (hideAll s.heap [Lo]) s.heap.objs.size Lo mo (fun x => [(Str.ofString "expected", Value.ref le), (Str.ofString "actual", Value.ref la)].reverse.lookup x) h₁ [] := ⟨⟨hns, fun b o e => hk₁ b o (of_hideAll _ e), Nat.le_of_eq (hideAll_size _ _)⟩, F.ns.keeps hk₁, hB, Nat.ne_of_lt F.ns.lt, News.nil, fun _ q => nomatch q⟩
  obtain ⟨oLo, hO, N1⟩ := G0.ledger
  have F1 := G0.F
  have hA' : ∀ env, (A.deeper env).frames = some [env, envo] := fun env => by
    show A.frames.map _ = _
    rw [hfr]; rfl
  change wpAny (model PP w) (A.deeper (sldEnv s.heap.objs.size _)) (execs (_ :: _) (sldEnv s.heap.objs.size _)) _ _ _
  walk_at "my steps"
  rename_i am _ lam _ _ au _ lau h₂ F2 N2
  have G2 : Grd (hideAll s.heap [Lo]) s.heap.objs.size Lo mo _ h₂ [(am, listOf ([] : List Value).toArray 0), (au, listOf ([] : List Value).toArray 0)] := Grd.of F2 (oLo := oLo) (fun p hp => N2 p (by
    simp only [List.mem_cons, List.not_mem_nil, or_false] at hp ⊢
    rcases hp with rfl | rfl | rfl
    · exact .inr (.inr rfl)
    · exact .inr (.inl rfl)
    · exact .inl rfl)) hO (List.forall_mem_cons.mpr ⟨Ne.symm (Nat.ne_of_lt lam), List.forall_mem_cons.mpr ⟨Ne.symm (Nat.ne_of_lt lau.2), List.forall_mem_nil _⟩⟩)
  have K : SFix w mean mg mb (hideAll s.heap [Lo]) le la am au vs ws xs ys := ⟨XB, TB, hdat hl, hi, hdat hl', hi', Nat.ne_of_lt lau.1, hxl, hyl⟩
  refine while_rule (fun n s' => ∃ h' tk m' i j Ms Us Mv Uv nM nU ti tj, s' = { s with heap := h', toks := tk } ∧ SInv (hideAll s.heap [Lo]) s.heap.objs.size Lo mo le la am au xs ys (sld xs ys) m' h' i j Ms Us Mv Uv nM nU ti tj ∧ n = (xs.length - i) + (ys.length - j)) ?_ _
    ⟨h₂, _, _, 0, 0, [], [], [], [], 0, 0, _, _, rfl, ⟨G2, .nil, .nil, ⟨rfl, rfl, rfl, rfl, rfl, rfl, trivial⟩, Nat.zero_le _, Nat.zero_le _, Nat.le_refl _, Nat.le_refl _, by simp, by simp⟩, rfl⟩
  rintro n s' ⟨h', tk, m', i, j, Ms, Us, Mv, Uv, nM, nU, ti, tj, rfl, I, rfl⟩
  walk_at "my steps"
  have hii := I.hii
  have hjj := I.hjj
  refine sldTurn K hh (hA' _) hfo hko I (fun h₃ tk₃ m₃ i' j' Ms' Us' Mv' Uv' nM' nU' ti' tj' I' hlt => ?_) (fun h₃ tk₃ m₃ Mv' Uv' nM' nU' G' S' hm' hu' => ?_)
  · have hii' := I'.hii
    have hjj' := I'.hjj
    repeat (first | refine wpAny_execs_nil ?_ | dsimp only)
    exact ⟨_, by omega, h₃, tk₃, m₃, i', j', Ms', Us', Mv', Uv', nM', nU', ti', tj', rfl, I', rfl⟩
  · obtain ⟨oLo3, hO3, N3⟩ := G'.ledger
    have F3 := fr_says G'.F _ S'
    dsimp only [kstB] at F3
    dsimp only
    walk_at "my steps"
    rename_i r h₄ F4 N4 l4
    have O4 : h₄.Ns Lo mo := hO3.ns (N4 _ (.tail _ (.head _))).1
    refine h h₄ tk₃ r am au Mv' Uv' nM' nU' ⟨O4, fun b o e => F4.keep b o (up b o e), F.above⟩ (fun p hp => ?_) hm' hu'
    have fresh : ∀ q : Addr × Obj, q ∈ [(r, ({ cls := Value.type "tuple", data := Data.seq [Value.ref am, Value.ref au].toArray } : Obj)), (Lo, oLo3), (am, listOf Mv'.toArray nM'), (au, listOf Uv'.toArray nU')] → Lo < q.1 → h₄.get? q.1 = some q.2 ∧ q.1 ≠ Lo ∧ h₀.get? q.1 = none := fun q hq hlt => by
      refine ⟨(N4 q hq).1, Ne.symm (Nat.ne_of_lt hlt), ?_⟩
      cases e : h₀.get? q.1 with
      | none => rfl
      | some o => have := up _ _ e; rw [(N4 q hq).2.2] at this; cases this
    rcases List.mem_cons.mp hp with rfl | hp
    · exact fresh _ (.head _) l4.1
    rcases List.mem_cons.mp hp with rfl | hp
    · exact fresh _ (.tail _ (.tail _ (.head _))) lam
    rcases List.mem_cons.mp hp with rfl | hp
    · exact fresh _ (.tail _ (.tail _ (.tail _ (.head _)))) lau.2
    have hp1 := N p hp
    exact ⟨F4.keep _ _ (hideAll_get _ hp1.1 (fun q => hp1.2.1 (List.mem_singleton.mp q))), hp1.2⟩
end
end Mine
end
section
open PySem PySem.W PyProof.Rows PySem.Calls PySem.Spec
set_option Elab.async false
set_option maxRecDepth 100000
set_option maxHeartbeats 4000000
namespace Mine
theorem offComps : True := by
  w_top off
  exact True.intro
section
variable {prog : Program} {w : World} {A : Around} {E : Value → Shared → Prop} {s : Shared} {h₀ : Heap} {L : Addr} {m : Str → Option Value} {env : Env} {news : List (Addr × Obj)}
abbrev CTests (prog : Program) (w : World) (A : Around) (ifs : List Expr) (cenv : Env) (Q : Bool → Shared → Prop) (E : Value → Shared → Prop) (s : Shared) : Prop :=
  wpAny (model prog w) A (forIn ifs true fun c r => if r = true then do let ok ← PySem.isTrue c cenv (eval c cenv); pure (ForInStep.yield ok) else pure (ForInStep.yield r)) Q E s
theorem plain_new {h' : Heap} {D : Addr} {ys : List Value} (F : Fr h₀ L h' m) (N : News h₀ L h' news) (hD : h₀.get? D = none) (P : NewPlain h' news D ys.toArray) : ∃ n, News h₀ L h' ((D, listOf ys.toArray n) :: news) := by
  obtain ⟨n, hn⟩ := P.1
  refine ⟨n, fun p hp => ?_⟩
  rcases List.mem_cons.mp hp with rfl | hp
  · refine ⟨hn, fun q => ?_, hD⟩
    obtain ⟨oL, es, ep, ho, hd, _⟩ := F.ns
    have q' : D = L := q
    rw [q', ho] at hn; cases hn; cases hd
  · exact N p hp
theorem comp_range {elt iter : Expr} {x : Str} {px : Pos} {ifs : List Expr} {scope : Scope} {cl : List (Str × Addr)} {pos : Pos} {Q : Value → Shared → Prop} {a b : Int} {n : Nat} (pz : Int → Bool) (d : Int → PyData)
    (F : Fr h₀ L s.heap m) (N : News h₀ L s.heap news)
    (hh : A.handled = none) (hclos : closureFor scope env = pure cl) (hcell : ∀ y ∈ scope.names, y.2 ≠ .cell) (hkind : scope.kind = .function)
    (hnames : ∀ y ∈ scope.names, y.2 = .local → scope.names.lookup y.1 = some .local) (hx : scope.names.lookup x = some .local)
    (hs : ∀ x, foldedSetIterable iter env x = pure x) (hsmall : Builtin.Range.small a b 1 = true) (hn : Builtin.Range.rangeSize a b 1 = (n : Int)) (hsz : n ≤ sizeLine)
    (hiter : ∀ Q' : Value → Shared → Prop, (∀ h' tk r t u v, Fr h₀ L h' m → News h₀ L h' news → IsRange h' r a b 1 t u v → Q' (.ref r) { s with heap := h', toks := tk }) → wpAny (model prog w) A (eval iter env) Q' E s)
    (htest : ∀ h₁ C t k s₂ m₂ E', Fr h₀ L h₁ m → News h₀ L h₁ news → k ∈ rangeInts a 1 n → Fr h₁ C s₂.heap m₂ → m₂ x = some (.int k t) → CTests prog w A ifs (compEnvC scope cl C env) (fun ok s₃ => ok = pz k ∧ Keeps s₂ s₃) E' s₂)
    (helt : ∀ h₁ C t k s₂ m₂ E', Fr h₀ L h₁ m → News h₀ L h₁ news → k ∈ rangeInts a 1 n → pz k = true → Fr h₁ C s₂.heap m₂ → m₂ x = some (.int k t) → wpAny (model prog w) A (eval elt (compEnvC scope cl C env)) (fun y s₃ => Carried y (d k) ∧ Keeps s₂ s₃) E' s₂)
    (hQ : ∀ D ys h' tk n', Fr h₀ L h' m → News h₀ L h' ((D, listOf ys.toArray n') :: news) → CarriedAll ys (((rangeInts a 1 n).filter pz).map d) → (∀ p ∈ news, p.1 ≠ D) → Q (.ref D) { s with heap := h', toks := tk }) :
    wpAny (model prog w) A (eval (.ListComp elt [⟨.Name x px, iter, ifs, 0⟩] scope pos) env) Q E s := by
  refine ListComp_DCr (h₀ := h₀) (L := L) (m := m) (pz := pz) (d := d) hh hclos hcell hkind hnames hx (hiter _ fun h' tk r t u v F' N' hr => ?_) hs
  refine ⟨news, r, a, b, 1, t, u, v, n, rfl, hr, hsmall, hn, hsz, F', N', ?_, ?_, ?_⟩
  · rintro C k v s₂ m₂ E' hC hk ⟨t', rfl⟩ hn₂ hm hkeep
    exact htest h' C t' k s₂ m₂ E' F' N' hk ⟨hn₂, hkeep, hC⟩ hm
  · rintro C k v s₂ m₂ E' hC hk ⟨t', rfl⟩ hp hn₂ hm hkeep
    exact helt h' C t' k s₂ m₂ E' F' N' hk hp ⟨hn₂, hkeep, hC⟩ hm
  · intro D ys h₂ tk₂ F₂ N₂ hD hl hpl hc
    obtain ⟨n', N₃⟩ := plain_new F₂ N₂ hD hpl
    exact hQ D ys h₂ tk₂ n' F₂ N₃ hc hpl.2
theorem comp_items {α : Type} {K : ItemKind α} {elt iter : Expr} {x : Str} {px : Pos} {ifs : List Expr} {scope : Scope} {cl : List (Str × Addr)} {pos : Pos} {Q : Value → Shared → Prop} {as : List α} (pz : α → Bool) (d : α → PyData)
    (F : Fr h₀ L s.heap m) (N : News h₀ L s.heap news)
    (hh : A.handled = none) (hclos : closureFor scope env = pure cl) (hcell : ∀ y ∈ scope.names, y.2 ≠ .cell) (hkind : scope.kind = .function)
    (hnames : ∀ y ∈ scope.names, y.2 = .local → scope.names.lookup y.1 = some .local) (hx : scope.names.lookup x = some .local)
    (hs : ∀ x, foldedSetIterable iter env x = pure x) (hsz : as.length ≤ sizeLine)
    (hiter : ∀ Q' : Value → Shared → Prop, (∀ h' tk r vs, Fr h₀ L h' m → News h₀ L h' news → h'.IsList r vs.toArray → AreOf K vs as → Q' (.ref r) { s with heap := h', toks := tk }) → wpAny (model prog w) A (eval iter env) Q' E s)
    (htest : ∀ h₁ C a v s₂ m₂ E', Fr h₀ L h₁ m → News h₀ L h₁ news → a ∈ as → K.is a v → Fr h₁ C s₂.heap m₂ → m₂ x = some v → CTests prog w A ifs (compEnvC scope cl C env) (fun ok s₃ => ok = pz a ∧ Keeps s₂ s₃) E' s₂)
    (helt : ∀ h₁ C a v s₂ m₂ E', Fr h₀ L h₁ m → News h₀ L h₁ news → a ∈ as → K.is a v → pz a = true → Fr h₁ C s₂.heap m₂ → m₂ x = some v → wpAny (model prog w) A (eval elt (compEnvC scope cl C env)) (fun y s₃ => Carried y (d a) ∧ Keeps s₂ s₃) E' s₂)
    (hQ : ∀ D ys h' tk n', Fr h₀ L h' m → News h₀ L h' ((D, listOf ys.toArray n') :: news) → CarriedAll ys ((as.filter pz).map d) → (∀ p ∈ news, p.1 ≠ D) → Q (.ref D) { s with heap := h', toks := tk }) :
    wpAny (model prog w) A (eval (.ListComp elt [⟨.Name x px, iter, ifs, 0⟩] scope pos) env) Q E s := by
  refine ListComp_DCn (h₀ := h₀) (L := L) (m := m) (K := K) (pz := pz) (d := d) hh hclos hcell hkind hnames hx (hiter _ fun h' tk r vs F' N' hl hi => ?_) hs
  refine ⟨news, r, vs, as, rfl, hl, hi, hsz, F', N', ?_, ?_, ?_⟩
  · intro C a v s₂ m₂ E' hC hk hv hn₂ hm hkeep
    exact htest h' C a v s₂ m₂ E' F' N' hk hv ⟨hn₂, hkeep, hC⟩ hm
  · intro C a v s₂ m₂ E' hC hk hv hp hn₂ hm hkeep
    exact helt h' C a v s₂ m₂ E' F' N' hk hv hp ⟨hn₂, hkeep, hC⟩ hm
  · intro D ys h₂ tk₂ F₂ N₂ hD hl hpl hc
    obtain ⟨n', N₃⟩ := plain_new F₂ N₂ hD hpl
    exact hQ D ys h₂ tk₂ n' F₂ N₃ hc hpl.2
theorem comp_items_to {α : Type} {K : ItemKind α} {elt iter : Expr} {x y : Str} {px py : Pos} {ifs : List Expr} {scope : Scope} {cl : List (Str × Addr)} {pos spos : Pos} {Q : Flow → Shared → Prop} {as : List α} (pz : α → Bool) (d : α → PyData)
    (F : Fr h₀ L s.heap m) (N : News h₀ L s.heap news) (hsw : swapsWith (.ListComp elt [⟨.Name x px, iter, ifs, 0⟩] scope pos) (some (.Name y py)) spos.line env = pure true) (hL : env.locals = L)
    (hh : A.handled = none) (hclos : closureFor scope env = pure cl) (hcell : ∀ y ∈ scope.names, y.2 ≠ .cell) (hkind : scope.kind = .function)
    (hnames : ∀ y ∈ scope.names, y.2 = .local → scope.names.lookup y.1 = some .local) (hx : scope.names.lookup x = some .local)
    (hy : env.kindOf y = some .local) (hp : (env.scope.kind == .class || (env.scope.kind == .module && env.locals != env.globals)) = false)
    (hs : ∀ x, foldedSetIterable iter env x = pure x) (hsz : as.length ≤ sizeLine)
    (hiter : ∀ Q' : Value → Shared → Prop, (∀ h' tk r vs, Fr h₀ L h' m → News h₀ L h' news → h'.IsList r vs.toArray → AreOf K vs as → Q' (.ref r) { s with heap := h', toks := tk }) → wpAny (model prog w) A (eval iter env) Q' E s)
    (htest : ∀ h₁ C a v s₂ m₂ E', Fr h₀ L h₁ m → News h₀ L h₁ news → a ∈ as → K.is a v → Fr h₁ C s₂.heap m₂ → m₂ x = some v → CTests prog w A ifs (compEnvC scope cl C env) (fun ok s₃ => ok = pz a ∧ Keeps s₂ s₃) E' s₂)
    (helt : ∀ h₁ C a v s₂ m₂ E', Fr h₀ L h₁ m → News h₀ L h₁ news → a ∈ as → K.is a v → pz a = true → Fr h₁ C s₂.heap m₂ → m₂ x = some v → wpAny (model prog w) A (eval elt (compEnvC scope cl C env)) (fun y s₃ => Carried y (d a) ∧ Keeps s₂ s₃) E' s₂)
    (hQ : ∀ D ys h' tk n', Fr h₀ L h' (fun z => if z = y then some (.ref D) else m z) → News h₀ L h' ((D, listOf ys.toArray n') :: news) → CarriedAll ys ((as.filter pz).map d) → (∀ p ∈ news, p.1 ≠ D) → Q .next { s with heap := h', toks := tk }) :
    wpAny (model prog w) A (exec (.Assign [.Name y py] (.ListComp elt [⟨.Name x px, iter, ifs, 0⟩] scope pos) spos) env) Q E s := by
  refine Assign_ListComp_DCn (h₀ := h₀) (L := L) (m := m) (K := K) (pz := pz) (d := d) hsw hL hh hclos hcell hkind hnames hx hy hp (hiter _ fun h' tk r vs F' N' hl hi => ?_) hs
  refine ⟨news, r, vs, as, rfl, hl, hi, hsz, F', N', ?_, ?_, ?_⟩
  · intro C a v s₂ m₂ E' hC hk hv hn₂ hm hkeep
    exact htest h' C a v s₂ m₂ E' F' N' hk hv ⟨hn₂, hkeep, hC⟩ hm
  · intro C a v s₂ m₂ E' hC hk hv hp hn₂ hm hkeep
    exact helt h' C a v s₂ m₂ E' F' N' hk hv hp ⟨hn₂, hkeep, hC⟩ hm
  · intro D ys h₂ tk₂ F₂ N₂ hD hl hpl hc
    obtain ⟨n', N₃⟩ := plain_new F₂ N₂ hD hpl
    exact hQ D ys h₂ tk₂ n' F₂ N₃ hc hpl.2
theorem comp_range_to {elt iter : Expr} {x y : Str} {px py : Pos} {ifs : List Expr} {scope : Scope} {cl : List (Str × Addr)} {pos spos : Pos} {Q : Flow → Shared → Prop} {a b : Int} {n : Nat} (pz : Int → Bool) (d : Int → PyData)
    (F : Fr h₀ L s.heap m) (N : News h₀ L s.heap news) (hsw : swapsWith (.ListComp elt [⟨.Name x px, iter, ifs, 0⟩] scope pos) (some (.Name y py)) spos.line env = pure true) (hL : env.locals = L)
    (hh : A.handled = none) (hclos : closureFor scope env = pure cl) (hcell : ∀ y ∈ scope.names, y.2 ≠ .cell) (hkind : scope.kind = .function)
    (hnames : ∀ y ∈ scope.names, y.2 = .local → scope.names.lookup y.1 = some .local) (hx : scope.names.lookup x = some .local)
    (hy : env.kindOf y = some .local) (hp : (env.scope.kind == .class || (env.scope.kind == .module && env.locals != env.globals)) = false)
    (hs : ∀ x, foldedSetIterable iter env x = pure x) (hsmall : Builtin.Range.small a b 1 = true) (hn : Builtin.Range.rangeSize a b 1 = (n : Int)) (hsz : n ≤ sizeLine)
    (hiter : ∀ Q' : Value → Shared → Prop, (∀ h' tk r t u v, Fr h₀ L h' m → News h₀ L h' news → IsRange h' r a b 1 t u v → Q' (.ref r) { s with heap := h', toks := tk }) → wpAny (model prog w) A (eval iter env) Q' E s)
    (htest : ∀ h₁ C t k s₂ m₂ E', Fr h₀ L h₁ m → News h₀ L h₁ news → k ∈ rangeInts a 1 n → Fr h₁ C s₂.heap m₂ → m₂ x = some (.int k t) → CTests prog w A ifs (compEnvC scope cl C env) (fun ok s₃ => ok = pz k ∧ Keeps s₂ s₃) E' s₂)
    (helt : ∀ h₁ C t k s₂ m₂ E', Fr h₀ L h₁ m → News h₀ L h₁ news → k ∈ rangeInts a 1 n → pz k = true → Fr h₁ C s₂.heap m₂ → m₂ x = some (.int k t) → wpAny (model prog w) A (eval elt (compEnvC scope cl C env)) (fun y s₃ => Carried y (d k) ∧ Keeps s₂ s₃) E' s₂)
    (hQ : ∀ D ys h' tk n', Fr h₀ L h' (fun z => if z = y then some (.ref D) else m z) → News h₀ L h' ((D, listOf ys.toArray n') :: news) → CarriedAll ys (((rangeInts a 1 n).filter pz).map d) → (∀ p ∈ news, p.1 ≠ D) → Q .next { s with heap := h', toks := tk }) :
    wpAny (model prog w) A (exec (.Assign [.Name y py] (.ListComp elt [⟨.Name x px, iter, ifs, 0⟩] scope pos) spos) env) Q E s := by
  refine Assign_ListComp_DCr (h₀ := h₀) (L := L) (m := m) (pz := pz) (d := d) hsw hL hh hclos hcell hkind hnames hx hy hp (hiter _ fun h' tk r t u v F' N' hr => ?_) hs
  refine ⟨news, r, a, b, 1, t, u, v, n, rfl, hr, hsmall, hn, hsz, F', N', ?_, ?_, ?_⟩
  · rintro C k v s₂ m₂ E' hC hk ⟨t', rfl⟩ hn₂ hm hkeep
    exact htest h' C t' k s₂ m₂ E' F' N' hk ⟨hn₂, hkeep, hC⟩ hm
  · rintro C k v s₂ m₂ E' hC hk ⟨t', rfl⟩ hp hn₂ hm hkeep
    exact helt h' C t' k s₂ m₂ E' F' N' hk hp ⟨hn₂, hkeep, hC⟩ hm
  · intro D ys h₂ tk₂ F₂ N₂ hD hl hpl hc
    obtain ⟨n', N₃⟩ := plain_new F₂ N₂ hD hpl
    exact hQ D ys h₂ tk₂ n' F₂ N₃ hc hpl.2
end
section
variable {M : Model} {A : Around} {E : Value → Shared → Prop} {s : Shared} {h₁ : Heap} {C : Addr} {m₂ : Str → Option Value} {scope : Scope} {cl : List (Str × Addr)} {env : Env} {x : Str} {pos : Pos} {v : Value} {Q : Value → Shared → Prop} {c : Addr} {o : Obj}
theorem c_local (F : Fr h₁ C s.heap m₂) (hv : m₂ x = some v) (h : Q v s) (hk : (compEnvC scope cl C env).scope.kind = .function) (hx : (compEnvC scope cl C env).kindOf x = some .local) (hb : (x == ("__debug__" : Str)) = false) :
    wpAny M A (eval (.Name x pos) (compEnvC scope cl C env)) Q E s := wpAny_Name (wpAny_loadName_local hk hx F.ns hv h) hb
theorem c_cell (F : Fr h₁ C s.heap m₂) (hc : cl.lookup x = some c) (hm : h₁.get? c = some o) (hd : o.data = .cell (some v)) (h : Q v s)
    (hk : (compEnvC scope cl C env).scope.kind = .function) (hx : (compEnvC scope cl C env).kindOf x = some .cell) (hb : (x == ("__debug__" : Str)) = false) :
    wpAny M A (eval (.Name x pos) (compEnvC scope cl C env)) Q E s := wpAny_Name (wpAny_loadName_cell hk hx hc ⟨o, F.keep _ _ hm, hd⟩ h) hb
end
end Mine
end
section
open PySem PySem.W PyProof.Rows PySem.Calls
set_option Elab.async false
set_option maxRecDepth 100000
set_option maxHeartbeats 4000000
namespace Mine
theorem offWords1 : True := by
  w_top off
  exact True.intro
local macro_rules | `(tactic| walk_at "pad 6 0") => `(tactic| fail)
local macro_rules | `(tactic| walk_at "pad 6 1") => `(tactic| fail)
local macro_rules | `(tactic| walk_at "pad 6 2") => `(tactic| fail)
local macro_rules | `(tactic| walk_at "pad 6 3") => `(tactic| fail)
theorem fill_k (w : World) (h : Heap) : (Mine.hd.heap_39 w.params).In h → Challenge.rw_tv0007_01.row.prog = Challenge.rw_tv0007_01.row.prog := by
  k_fill
  intro _
  rfl
local macro_rules | `(tactic| walk_at "my steps") => `(tactic| repeat' (first | ((fail_if_success (with_reducible show wpAny _ _ (eval (Expr.ListComp _ _ _ _) _) _ _ _)); first | (k_unfold; (try dsimp only)) | walk1 | (dsimp only; walk1) | (leave1; (try dsimp only)))))
local macro_rules | `(tactic| walk_at "eval Name") => `(tactic| ((with_reducible show wpAny _ _ (eval (Expr.Name _ _) (compEnvC _ _ _ _)) _ _ _); refine c_local (by assumption) (by assumption) ?_ (by rfl) (by rfl) (by decide)))
def hexw (k : Int) : Str := Str.ofString "0x" ++ Txt.item (Str.ofString "1248") (k.fmod 4) ++ Txt.mul (Str.ofString "0") (k.fdiv 4)
def words10 : List Str := [Str.ofString "OPTIMIZED", Str.ofString "NEWLOCALS", Str.ofString "VARARGS", Str.ofString "VARKEYWORDS", Str.ofString "NESTED", Str.ofString "GENERATOR", Str.ofString "NOFREE", Str.ofString "COROUTINE", Str.ofString "ITERABLE_COROUTINE", Str.ofString "ASYNC_GENERATOR"]
def lawWords : List Str := words10 ++ (rangeInts 10 1 22).map hexw
theorem hexw_len : ∀ k ∈ rangeInts 10 1 22, (Str.ofString "0x" ++ Txt.item (Str.ofString "1248") (k.fmod 4)).length + (Txt.mul (Str.ofString "0") (k.fdiv 4)).length ≤ 100 := by decide +kernel
theorem words_call {w : World} {A : Around} {E : Value → Shared → Prop} {s : Shared} {Q : Value → Shared → Prop} {mean : ExcName → Option Value} {mg mb : Str → Option Value}
    (X : (Mine.hd.heap_39 w.params).In s.heap) (T : Top VV LS mean mg mb s.heap) (hh : A.handled = none) (hroom : A.depth + 1 < recursionLimit)
    (hQ : ∀ h' tk D ys n, (∀ b o, s.heap.get? b = some o → h'.get? b = some o) → s.heap.objs.size ≤ D → s.heap.get? D = none → h'.get? D = some (listOf ys.toArray n) → StrsAre ys lawWords → Q (.ref D) { s with heap := h', toks := tk }) :
    wpAny (model PP w) A (call (.ref 34) []) Q E s := by
  refine wpAny_call (call_pos_ret (by omega) (X 34 _ rfl) rfl T.nolimit (codeRec_of X (by with_unfolding_all rfl)) rfl (locs rfl) (fun h₁ F => ?_))
  have TR := topRead_of T
  have N := News.nil (h₀ := s.heap) (L := s.heap.objs.size) (h := h₁)
  change wpAny _ _ (execs (_ :: _) (envOf (Str.ofString "_law_words") _ s.heap.objs.size 34 _)) _ _ _
  walk_at "my steps"
  rename_i h₂ F2 N2
  refine comp_range (a := 10) (b := 32) (n := 22) (fun _ => true) (fun k => PyData.str (hexw k)) F2 N2 hh (by with_unfolding_all rfl) (by decide) (by rfl) (by decide) (by rfl) (by intro x; with_unfolding_all rfl) (by decide) (by decide) (by decide) ?_ ?_ ?_ ?_
  · intro Q' hQ'
    walk_at "my steps"
    exact hQ' _ _ _ _ _ _ (by assumption) (by assumption) (by assumption)
  · intro h₁ C t k s₂ m₂ E' F1 N1 hk F2 hm
    exact wpAny_tests_nil ⟨rfl, s₂.heap, s₂.toks, rfl, fun _ _ e => e⟩
  · intro h₁ C t k s₂ m₂ E' F1 N1 hk _ F2 hm
    obtain ⟨hk1, hk2⟩ := mem_rangeInts hk
    have hlen := hexw_len k hk
    walk_at "my steps"
    · exact .str _ _
    · exact ⟨_, _, rfl, fun _ _ e => e⟩
  · intro D ys h' tk n' F3 N3 hc hne
    have hw : StrsAre ys ((rangeInts 10 1 22).map hexw) := by
      have := StrsAre.of_carried (ys := ((rangeInts 10 1 22).map hexw)) (vs := ys) (by
        have e : (List.filter (fun _ => true) (rangeInts 10 1 22)).map (fun k => PyData.str (hexw k)) = ((rangeInts 10 1 22).map hexw).map PyData.str := by rw [List.filter_eq_self.mpr (fun _ _ => rfl), List.map_map]; rfl
        rw [← e]; exact hc)
      exact this
    have hl1 := (N3 _ (.tail _ (.head _))).1
    have hl2 := (N3 _ (.head _)).1
    have hlen := hw.len_eq
    rw [List.length_map, rangeInts_length] at hlen
    refine add_lists F3 N3 ⟨_, hl1, rfl, _, rfl⟩ ⟨_, hl2, rfl, _, rfl⟩ (fun h₅ F5 N5 => ?_) (by simp only [List.length_cons, List.length_nil, hlen]; decide)
    dsimp only
    refine hQ _ _ _ _ _ F5.keep (Nat.le_of_lt (Nat.lt_of_lt_of_le F3.ns.lt (Nat.le_refl _))) (N5 _ (.head _)).2.2 (N5 _ (.head _)).1 ?_
    exact StrsAre.append' (by repeat (first | exact .nil | refine .cons _ _ ?_)) hw
end Mine
end
section
open PySem PySem.W PyProof.Rows PySem.Calls PySem.Spec
set_option Elab.async false
set_option maxRecDepth 100000
set_option maxHeartbeats 4000000
namespace Mine
theorem offTwice : True := by
  w_top off
  exact True.intro
theorem compTurn_two0 (elt t1 i1 t2 i2 : Expr) (scope : Scope) (pos : Pos) (it acc : Value) (env : Env) :
    compTurn (.ListComp elt [⟨t1, i1, [], 0⟩, ⟨t2, i2, [], 0⟩] scope pos) 0 it acc env = (do
      standAt i1.pos
      match ← pyNext it with
      | none => pure (.done .next)
      | some v =>
        letOwnedTupleGo t1 it v
        assign t1 env v
        let x ← eval i2 env
        standAt i2.pos
        let x ← foldedSetIterable i2 env x
        let _ ← runOwn (.compStart (.ListComp elt [⟨t1, i1, [], 0⟩, ⟨t2, i2, [], 0⟩] scope pos) 1 (← holding [x] (pyIter x)) acc env) env
        again (.compLoop (.ListComp elt [⟨t1, i1, [], 0⟩, ⟨t2, i2, [], 0⟩] scope pos) 0 it acc env)) := by rfl
theorem compTurn_two1 (elt t1 i1 t2 i2 : Expr) (scope : Scope) (pos : Pos) (it acc : Value) (env : Env) :
    compTurn (.ListComp elt [⟨t1, i1, [], 0⟩, ⟨t2, i2, [], 0⟩] scope pos) 1 it acc env = (do
      standAt i2.pos
      match ← pyNext it with
      | none => pure (.done .next)
      | some v =>
        letOwnedTupleGo t2 it v
        assign t2 env v
        (do let _ ← call (.builtin "list.append") [acc, ← eval elt env])
        again (.compLoop (.ListComp elt [⟨t1, i1, [], 0⟩, ⟨t2, i2, [], 0⟩] scope pos) 1 it acc env)) := by rfl
section
variable {prog : Program} {w : World} {A : Around} {E : Value → Shared → Prop} {R : Result → Shared → Prop} {s : Shared}
theorem codeAny_compStart_two {elt t1 i1 t2 i2 scope pos it acc env}
    (h0 : codeAny (model prog w) A (.compLoop (.ListComp elt [⟨t1, i1, [], 0⟩, ⟨t2, i2, [], 0⟩] scope pos) 1 it acc env) R s)
    (h : wpAny (model prog w) A (pyIter it) (fun it' s' => codeAny (model prog w) A (.compLoop (.ListComp elt [⟨t1, i1, [], 0⟩, ⟨t2, i2, [], 0⟩] scope pos) 1 it' acc env) R s')
      (notedBy (model prog w) A env fun x s' => R (.error x) s') s) :
    codeAny (model prog w) A (.compStart (.ListComp elt [⟨t1, i1, [], 0⟩, ⟨t2, i2, [], 0⟩] scope pos) 1 it acc env) R s := by
  refine codeAny_of_tree ?_
  show wpAny _ _ ((compStart (.ListComp elt [⟨t1, i1, [], 0⟩, ⟨t2, i2, [], 0⟩] scope pos) 1 it acc env).onRaise (fun x => do noteFrame x env; standAt theWindowsPlace)) _ _ s
  refine wpAny_notedAt ?_
  unfold compStart
  show wpAny _ _ (ask >>= _) _ _ s
  refine wpAny_bind (wpAny_askSetting (wpAny_ite ?_))
  split
  · first
      | exact wpAny_bind (wpAny_pure (wpAny_pure (And.intro rfl h0)))
      | exact wpAny_pure (And.intro rfl h0)
  · first
      | exact wpAny_bind (wpAny_rule (wpAny_bind (wpAny_standAt (wpAny_bind (wpAny_mono h (fun it' s' h' => wpAny_pure (And.intro rfl h')) fun _ _ x => x)))))
      | (refine wpAny_bind (wpAny_rule ?_); show wpAny _ _ (standAt i2.pos >>= _) _ _ s; exact wpAny_bind (wpAny_standAt (wpAny_bind (wpAny_mono h (fun it' s' h' => wpAny_pure (And.intro rfl h')) fun _ _ x => x))))
theorem inner_two {elt t1 i1 i2 : Expr} {y : Str} {py : Pos} {scope : Scope} {pos : Pos} {J D : Addr} {fp : List Addr} {n : Nat} {P : Nat → Value → Prop} {St : Nat → Heap → Prop} {cenv : Env} {m : Str → Option Value} {x : Str} {v : Value} {ys : List Value}
    (W : Walks prog w A J fp [J] n P St) (hy : cenv.kindOf y = some .local) (hp : (cenv.scope.kind == .class || (cenv.scope.kind == .module && cenv.locals != cenv.globals)) = false)
    (hxy : x ≠ y) (hDC : D ≠ cenv.locals) (hDf : D ∉ fp) (hCf : cenv.locals ∉ fp) (hst : St 0 s.heap) (hacc : s.heap.PlainList D ys.toArray) (hn : s.heap.Ns cenv.locals m) (hm : m x = some v)
    (helt : ∀ (s₂ : Shared) m₂ E', s₂.heap.Ns cenv.locals m₂ → m₂ x = some v → wpAny (model prog w) A (eval elt cenv) (fun z s₃ => z = v ∧ s₃ = s₂) E' s₂)
    (hR : ∀ h' tk m', h'.Ns cenv.locals m' → m' x = some v → h'.PlainList D (ys ++ List.replicate n v).toArray → (∀ b o, b ≠ cenv.locals → b ≠ J → b ≠ D → s.heap.get? b = some o → h'.get? b = some o) → R (.ok .next) { s with heap := h', toks := tk })
    (hsz : ys.length + n ≤ sizeLine) (ht : ∀ u, letOwnedTupleGo (.Name y py) (.ref J) u = pure () := by intro _; rfl) :
    codeAny (model prog w) A (.compLoop (.ListComp elt [⟨t1, i1, [], 0⟩, ⟨.Name y py, i2, [], 0⟩] scope pos) 1 (.ref J) (.ref D) cenv) R s := by
  have hJf : J ∈ fp := W.sub J (List.mem_singleton.mpr rfl)
  have hDJ : D ≠ J := fun q => hDf (q ▸ hJf)
  have hCJ : cenv.locals ≠ J := fun q => hCf (q ▸ hJf)
  refine codeAny_loop rfl (fun k s' => ∃ h' tk i m', s' = { s with heap := h', toks := tk } ∧ i ≤ n ∧ k = n + 1 - i ∧ St i h' ∧ h'.PlainList D (ys ++ List.replicate i v).toArray ∧ h'.Ns cenv.locals m' ∧ m' x = some v ∧
      (∀ b o, b ≠ cenv.locals → b ≠ J → b ≠ D → s.heap.get? b = some o → h'.get? b = some o)) ?_ (n + 1) ⟨s.heap, s.toks, 0, m, rfl, Nat.zero_le _, rfl, hst, by simpa using hacc, hn, hm, fun _ _ _ _ _ e => e⟩
  rintro k s' ⟨h', tk, i, m', rfl, hi, rfl, hst', hacc', hn', hm', hk⟩
  show wpAny _ A ((compTurn (.ListComp elt [⟨t1, i1, [], 0⟩, ⟨.Name y py, i2, [], 0⟩] scope pos) 1 (.ref J) (.ref D) cenv).onRaise (fun x => do noteFrame x cenv; theTreesLotGoes x)) _ _ _
  refine wpAny_noted ?_
  rw [compTurn_two1]
  refine wpAny_bind (wpAny_standAt (wpAny_bind ?_))
  by_cases hlt : i < n
  · refine W.item i _ _ _ hlt hst' fun u h₁ tk₁ _ hst₁ hk₁ => ?_
    dsimp only
    refine wpAny_bind (wpAny_of_eq (ht u) (wpAny_bind ?_))
    refine wpAny_assign_Name (wpAny_storeName_local hy (hn'.at' fun o e => hk₁ _ o (by simpa using hCJ) e) (fun h₂ hn₂ hs₂ => ?_) hp)
    have hst₂ : St (i + 1) h₂ := W.frame _ _ _ hst₁ fun b hb o e => hs₂.extBut b o (fun q => hCf (q ▸ hb)) e
    have hacc₂ : h₂.PlainList D (ys ++ List.replicate i v).toArray := hacc'.at fun o e => hs₂.extBut D o hDC (hk₁ D o (by simpa using hDJ) e)
    refine wpAny_bind (wpAny_bind (wpAny_mono (helt _ _ _ hn₂ (by rw [if_neg hxy]; exact hm')) (fun z s₃ hz => ?_) fun _ _ q => q))
    obtain ⟨rfl, rfl⟩ := hz
    refine wpAny_bind (wpAny_list_append_plain (hsz := by rw [List.size_toArray, List.length_append, List.length_replicate]; omega) hacc₂ fun h₅ hl₅ hs₅ => ?_)
    refine wpAny_pure (wpAny_pure ⟨rfl, n + 1 - (i + 1), by omega, h₅, _, i + 1, _, rfl, hlt, rfl, W.frame _ _ _ hst₂ fun b hb o e => hs₅.extBut b o (fun q => hDf (q ▸ hb)) e, ?_, hn₂.sameBut hs₅ (Ne.symm hDC), by rw [if_neg hxy]; exact hm', fun b o h1 h2 h3 e => hs₅.extBut b o h3 (hs₂.extBut b o h1 (hk₁ b o (by simpa using h2) (hk b o h1 h2 h3 e)))⟩)
    rw [List.push_toArray, List.append_assoc, ← List.replicate_succ'] at hl₅
    exact hl₅
  · obtain rfl : i = n := by omega
    refine W.done _ _ _ hst' fun h₁ tk₁ hk₁ => ?_
    dsimp only
    exact wpAny_pure (hR h₁ tk₁ m' (hn'.at' fun o e => hk₁ _ o (by simpa using hCJ) e) hm' (hacc'.at fun o e => hk₁ D o (by simpa using hDJ) e) fun b o h1 h2 h3 e => hk₁ b o (by simpa using h2) (hk b o h1 h2 h3 e))
end
def dup (vs : List Value) : List Value := vs.flatMap fun v => [v, v]
section
variable {prog : Program} {w : World} {A : Around} {E : Value → Shared → Prop} {s : Shared} {env : Env}
theorem comp_twice {elt i1 i2 : Expr} {x y : Str} {px py : Pos} {scope : Scope} {cl : List (Str × Addr)} {pos : Pos} {Q : Value → Shared → Prop} {ax : Addr} {vs : List Value}
    (hh : A.handled = none) (hclos : closureFor scope env = pure cl) (hcell : ∀ y ∈ scope.names, y.2 ≠ .cell) (hkind : scope.kind = .function)
    (hnames : ∀ y ∈ scope.names, y.2 = .local → scope.names.lookup y.1 = some .local) (hx : scope.names.lookup x = some .local) (hy : scope.names.lookup y = some .local) (hxy : x ≠ y)
    (hs : ∀ u, foldedSetIterable i1 env u = pure u) (hs2 : ∀ C u, foldedSetIterable i2 (compEnvC scope cl C env) u = pure u) (hsz : 2 * vs.length ≤ sizeLine) (hl : s.heap.IsList ax vs.toArray)
    (hiter : ∀ Q' : Value → Shared → Prop, (∀ tk, Q' (.ref ax) { s with toks := tk }) → wpAny (model prog w) A (eval i1 env) Q' E s)
    (hi2 : ∀ C s₂ m₂ (Q' : Value → Shared → Prop) E', Fr s.heap C s₂.heap m₂ → (∀ h' tk r t u v, (∀ b o, s₂.heap.get? b = some o → h'.get? b = some o) → IsRange h' r 0 2 1 t u v → Q' (.ref r) { s₂ with heap := h', toks := tk }) → wpAny (model prog w) A (eval i2 (compEnvC scope cl C env)) Q' E' s₂)
    (helt : ∀ C v (s₂ : Shared) m₂ E', v ∈ vs → s₂.heap.Ns C m₂ → m₂ x = some v → wpAny (model prog w) A (eval elt (compEnvC scope cl C env)) (fun z s₃ => z = v ∧ s₃ = s₂) E' s₂)
    (hQ : ∀ D h' tk n, (∀ b o, s.heap.get? b = some o → h'.get? b = some o) → s.heap.get? D = none → h'.get? D = some (listOf (dup vs).toArray n) → Q (.ref D) { s with heap := h', toks := tk }) :
    wpAny (model prog w) A (eval (.ListComp elt [⟨.Name x px, i1, [], 0⟩, ⟨.Name y py, i2, [], 0⟩] scope pos) env) Q E s := by
  rw [eval_ListComp]
  refine wpAny_comprehension_free (use := none) rfl hs hclos hkind hnames (hiter _ fun tk₁ => wpAny_pyIter_list hl ?_)
  have hlt : ax < s.heap.objs.size := by obtain ⟨_, e, _⟩ := hl; exact Heap.lt_size e
  refine wpAny_newObj_type (wpAny_newFunctionEnv hcell (by intro y hy; simp at hy) (fun h₁ hns₁ hsb₁ => ?_) hkind)
  dsimp only at hns₁ hsb₁ ⊢
  generalize hH1 : s.heap.push { cls := .type "list_iterator", data := .fields #[.ref ax, .int 0 0] } = H1 at hns₁ hsb₁ ⊢
  generalize hH2 : H1.push { cls := .type "list", dict := none, data := .seq ([] : List Value).toArray } = H2 at hns₁ hsb₁ ⊢
  have z1 : H1.objs.size = s.heap.objs.size + 1 := by rw [← hH1, Heap.size_push]
  have z2 : H2.objs.size = H1.objs.size + 1 := by rw [← hH2, Heap.size_push]
  have H1g : ∀ b o, s.heap.get? b = some o → H1.get? b = some o := fun b o e => by rw [← hH1]; exact Heap.get?_push_of_some _ e
  have H2g : ∀ b o, H1.get? b = some o → H2.get? b = some o := fun b o e => by rw [← hH2]; exact Heap.get?_push_of_some _ e
  have H3g : ∀ b o, H2.get? b = some o → h₁.get? b = some o := fun b o e => hsb₁.extBut b o (Nat.ne_of_lt (Heap.lt_size e)) (Heap.get?_push_of_some _ e)
  have old : ∀ b o, s.heap.get? b = some o → h₁.get? b = some o := fun b o e => H3g b o (H2g b o (H1g b o e))
  have hI : h₁.IsListIter s.heap.objs.size ax 0 := ⟨_, H3g _ _ (H2g _ _ (by rw [← hH1]; exact Heap.get?_push_size _ rfl)), rfl, rfl⟩
  have hD : h₁.PlainList H1.objs.size #[] := ⟨_, H3g _ _ (by rw [← hH2]; exact Heap.get?_push_size _ rfl)⟩
  have ne0 : ∀ b o, s.heap.get? b = some o → b ≠ s.heap.objs.size := fun b o e => Nat.ne_of_lt (Heap.lt_size e)
  have ne1 : ∀ b o, s.heap.get? b = some o → b ≠ H1.objs.size := fun b o e => Nat.ne_of_lt (Nat.lt_of_lt_of_le (Heap.lt_size e) (by omega))
  have ne2 : ∀ b o, s.heap.get? b = some o → b ≠ H2.objs.size := fun b o e => Nat.ne_of_lt (Nat.lt_of_lt_of_le (Heap.lt_size e) (by omega))
  have d01 : s.heap.objs.size ≠ H1.objs.size := by omega
  have d02 : s.heap.objs.size ≠ H2.objs.size := by omega
  have d12 : H1.objs.size ≠ H2.objs.size := by omega
  have fresh : ∀ a, s.heap.objs.size ≤ a → s.heap.get? a = none := fun a ha => by
    cases e : s.heap.get? a with
    | none => rfl
    | some o' => exact absurd (Heap.lt_size e) (Nat.not_lt.mpr ha)
  have W := Walks.list (prog := prog) (w := w) hh s.heap.objs.size ax (Nat.ne_of_lt hlt) vs.toArray
  have hkn : ∀ C, (compEnvC scope cl C env).kindOf x = some .local := fun C => lookup_relabel_local hx
  have hkn2 : ∀ C, (compEnvC scope cl C env).kindOf y = some .local := fun C => lookup_relabel_local hy
  have hpp : ∀ C, ((compEnvC scope cl C env).scope.kind == .class || ((compEnvC scope cl C env).scope.kind == .module && (compEnvC scope cl C env).locals != (compEnvC scope cl C env).globals)) = false := fun C => by simp [compEnvC, relabel, hkind]
  have loop : ∀ s₃ : Shared, (∃ tk, s₃ = { s with heap := h₁, toks := tk }) →
      codeAny (model prog w) A (.compLoop (.ListComp elt [⟨.Name x px, i1, [], 0⟩, ⟨.Name y py, i2, [], 0⟩] scope pos) 0 (.ref s.heap.objs.size) (.ref H1.objs.size) (compEnvC scope cl H2.objs.size env))
        (compPost (model prog w) A E none Q (.ref H1.objs.size) H2.objs.size) s₃ := by
    rintro s₃ ⟨tk0, rfl⟩
    refine codeAny_loop rfl (fun k s' => ∃ h' tk i m', s' = { s with heap := h', toks := tk } ∧ i ≤ vs.length ∧ k = vs.length + 1 - i ∧ h'.IsListIter s.heap.objs.size ax i ∧ h'.PlainList H1.objs.size (dup (vs.take i)).toArray ∧ h'.Ns H2.objs.size m' ∧
      (∀ b o, s.heap.get? b = some o → h'.get? b = some o)) ?_ (vs.length + 1) ⟨h₁, _, 0, _, rfl, Nat.zero_le _, rfl, hI, by simpa [dup] using hD, hns₁, old⟩
    rintro k s' ⟨h', tk, i, m', rfl, hi, rfl, hI', hD', hn', hk'⟩
    show wpAny _ A ((compTurn (.ListComp elt [⟨.Name x px, i1, [], 0⟩, ⟨.Name y py, i2, [], 0⟩] scope pos) 0 (.ref s.heap.objs.size) (.ref H1.objs.size) (compEnvC scope cl H2.objs.size env)).onRaise (fun x => do noteFrame x (compEnvC scope cl H2.objs.size env); theTreesLotGoes x)) _ _ _
    refine wpAny_noted ?_
    rw [compTurn_two0]
    refine wpAny_bind (wpAny_standAt (wpAny_bind ?_))
    have hlax : h'.IsList ax vs.toArray := hl.at fun o e => hk' _ o e
    by_cases hlti : i < vs.length
    · refine W.item i _ _ _ (by simpa using hlti) ⟨hI', hlax⟩ fun u h₂ tk₂ hu hst₂ hk₂ => ?_
      have hu' : vs[i]? = some u := by simpa using hu
      have hum : u ∈ vs := List.mem_of_getElem? hu'
      dsimp only
      refine wpAny_bind (wpAny_of_eq (show letOwnedTupleGo (.Name x px) (.ref s.heap.objs.size) u = pure () from rfl) (wpAny_bind ?_))
      refine wpAny_assign_Name (wpAny_storeName_local (hkn _) (hn'.at' fun o e => hk₂ _ o (by simp only [List.mem_singleton]; exact Ne.symm d02) e) (fun h₃ hn₃ hs₃ => ?_) (hpp _))
      have keep3 : ∀ b o, s.heap.get? b = some o → h₃.get? b = some o := fun b o e => hs₃.extBut b o (ne2 b o e) (hk₂ b o (by simp only [List.mem_singleton]; exact Nat.ne_of_lt (Heap.lt_size e)) (hk' b o e))
      have hI3 : h₃.IsListIter s.heap.objs.size ax (i + 1) := hst₂.1.at fun o e => hs₃.extBut _ o d02 e
      have hD3 : h₃.PlainList H1.objs.size (dup (vs.take i)).toArray := hD'.at fun o e => hs₃.extBut _ o d12 (hk₂ _ o (by simp only [List.mem_singleton]; exact Ne.symm d01) e)
      refine wpAny_bind (hi2 H2.objs.size _ _ _ _ ⟨hn₃, keep3, by omega⟩ fun h₄ tk₄ r t u' v' hk₄ hr => ?_)
      refine wpAny_bind (wpAny_standAt (wpAny_bind (wpAny_of_eq (hs2 _ _) (wpAny_bind (wpAny_holding (wpAny_pyIter_range hr (by decide) ?_))))))
      have hJ : ∀ b o, h₃.get? b = some o → b ≠ h₄.objs.size := fun b o e => Nat.ne_of_lt (Heap.lt_size (hk₄ b o e))
      obtain ⟨oI, heI, rI⟩ := id hI3
      obtain ⟨nD, heD⟩ := id hD3
      obtain ⟨oC, _, _, heC, _⟩ := id hn₃
      have up4 : ∀ (o4 : Obj) b o, h₃.get? b = some o → (h₄.push o4).get? b = some o := fun o4 b o e => Heap.get?_push_of_some _ (hk₄ b o e)
      have WJ := Walks.range (prog := prog) (w := w) hh h₄.objs.size 0 1 2
      refine wpAny_bind (wpAny_runOwn ?_)
      rw [Around.mark_none]
      have inn : ∀ (s₆ : Shared) , (∃ tk, s₆ = { s with heap := h₄.push { cls := .type "range_iterator", data := .fields #[rawInt 0, rawInt (Builtin.Range.rangeSize 0 2 1), rawInt 1] }, toks := tk }) →
          codeAny (model prog w) A (.compLoop (.ListComp elt [⟨.Name x px, i1, [], 0⟩, ⟨.Name y py, i2, [], 0⟩] scope pos) 1 (.ref h₄.objs.size) (.ref H1.objs.size) (compEnvC scope cl H2.objs.size env))
            (fun r s' => match r with
              | .ok f => wpAny (model prog w) A (again (.compLoop (.ListComp elt [⟨.Name x px, i1, [], 0⟩, ⟨.Name y py, i2, [], 0⟩] scope pos) 0 (.ref s.heap.objs.size) (.ref H1.objs.size) (compEnvC scope cl H2.objs.size env)))
                  (fun fin s' => match fin with | .done f => (compPost (model prog w) A E none Q (.ref H1.objs.size) H2.objs.size) (.ok f) s' | .again c' => c' = .compLoop (.ListComp elt [⟨.Name x px, i1, [], 0⟩, ⟨.Name y py, i2, [], 0⟩] scope pos) 0 (.ref s.heap.objs.size) (.ref H1.objs.size) (compEnvC scope cl H2.objs.size env) ∧ ∃ m, m < vs.length + 1 - i ∧ ∃ h' tk i m', s' = { s with heap := h', toks := tk } ∧ i ≤ vs.length ∧ m = vs.length + 1 - i ∧ h'.IsListIter s.heap.objs.size ax i ∧ h'.PlainList H1.objs.size (dup (vs.take i)).toArray ∧ h'.Ns H2.objs.size m' ∧
      (∀ b o, s.heap.get? b = some o → h'.get? b = some o)) (notedBy (model prog w) A (compEnvC scope cl H2.objs.size env) fun e s' => compPost (model prog w) A E none Q (.ref H1.objs.size) H2.objs.size (.error e) s') s'
              | .error e => cameBackBy (model prog w) A (compEnvC scope cl H2.objs.size env) (notedBy (model prog w) A (compEnvC scope cl H2.objs.size env) fun e s' => compPost (model prog w) A E none Q (.ref H1.objs.size) H2.objs.size (.error e) s') e s') s₆ := by
        rintro s₆ ⟨tk₆, rfl⟩
        refine inner_two (x := x) (v := u) (ys := dup (vs.take i)) WJ (hkn2 _) (hpp _) hxy d12 (by simp only [List.mem_singleton]; exact hJ _ _ heD) (by simp only [List.mem_singleton]; exact hJ _ _ heC) (by exact Heap.get?_push_size _ rfl) (hD3.at fun o e => up4 _ _ o e) (hn₃.keeps fun b o e => up4 _ b o e) (by simp) (fun s₂ m₂ E' hn hm => helt _ u s₂ m₂ E' hum hn hm) ?_ ?_
        · intro h₇ tk₇ m₇ hn₇ _ hD₇ hk₇
          refine wpAny_pure ⟨rfl, vs.length + 1 - (i + 1), by omega, h₇, tk₇, i + 1, m₇, rfl, hlti, rfl, ⟨oI, hk₇ _ _ d02 (hJ _ _ heI) d01 (up4 _ _ _ heI), rI⟩, ?_, hn₇, fun b o e => hk₇ b o (ne2 b o e) (hJ _ _ (keep3 b o e)) (by first | exact ne0 b o e | exact ne1 b o e | exact ne2 b o e) (up4 _ _ _ (keep3 b o e))⟩
          have e2 : dup (vs.take (i + 1)) = dup (vs.take i) ++ List.replicate 2 u := by
            rw [List.take_add_one, hu']
            simp [dup, List.flatMap_append]
          rw [e2]; exact hD₇
        · have : (dup (vs.take i)).length ≤ 2 * i := by
            have : ∀ l : List Value, (dup l).length = 2 * l.length := fun l => by
              induction l with
              | nil => rfl
              | cons a l ih => simp only [dup, List.flatMap_cons, List.length_append, List.length_cons, List.length_nil] at ih ⊢; omega
            rw [this, List.length_take]; omega
          omega
      exact codeAny_compStart_two (inn _ ⟨_, rfl⟩) (WJ.self 0 _ _ _ (by exact Heap.get?_push_size _ rfl) (inn _ ⟨_, rfl⟩))
    · obtain rfl : i = vs.length := by omega
      refine W.done _ _ _ ⟨by simpa using hI', hlax⟩ fun h₂ tk₂ hk₂ => ?_
      dsimp only
      refine wpAny_pure ⟨m', hn'.at' fun o e => hk₂ _ o (by simp only [List.mem_singleton]; exact Ne.symm d02) e, fun h'' hs'' => ?_⟩
      obtain ⟨nD, heD⟩ := hD'
      rw [List.take_length] at heD
      exact hQ _ _ _ nD (fun b o e => hs''.extBut b o (by first | exact ne0 b o e | exact ne1 b o e | exact ne2 b o e) (hk₂ b o (by simp only [List.mem_singleton]; exact Nat.ne_of_lt (Heap.lt_size e)) (hk' b o e))) (fresh _ (by omega)) (hs''.extBut _ _ d12 (hk₂ _ _ (by simp only [List.mem_singleton]; exact Ne.symm d01) heD))
  refine codeAny_compStart_list (loop _ ⟨_, rfl⟩) (W.self 0 _ _ _ ⟨hI, hl.at fun o e => old _ o e⟩ (loop _ ⟨_, rfl⟩))
end
end Mine
end
section
open PySem PySem.W PyProof.Rows PySem.Calls
set_option Elab.async false
set_option maxRecDepth 100000
set_option maxHeartbeats 4000000
namespace Mine
theorem offTwice2 : True := by
  w_top off
  exact True.intro
local macro_rules | `(tactic| walk_at "pad 7 0") => `(tactic| fail)
local macro_rules | `(tactic| walk_at "pad 7 1") => `(tactic| fail)
local macro_rules | `(tactic| walk_at "pad 7 2") => `(tactic| fail)
local macro_rules | `(tactic| walk_at "pad 7 3") => `(tactic| fail)
local macro_rules | `(tactic| walk_at "pad 7 4") => `(tactic| fail)
local macro_rules | `(tactic| walk_at "my steps") => `(tactic| repeat' (first | ((fail_if_success (with_reducible show wpAny _ _ (eval (Expr.ListComp _ _ _ _) _) _ _ _)); first | (k_unfold; (try dsimp only)) | walk1 | (dsimp only; walk1) | (leave1; (try dsimp only)))))
local macro_rules | `(tactic| walk_at "eval Name") => `(tactic| ((with_reducible show wpAny _ _ (eval (Expr.Name _ _) (compEnvC _ _ _ _)) _ _ _); refine c_local (by assumption) (by assumption) ?_ (by rfl) (by rfl) (by decide)))
theorem plain_keep {h₀ h h' : Heap} {L D : Addr} {m : Str → Option Value} {news : List (Addr × Obj)} {o : Obj} (F : Fr h₀ L h m) (N : News h₀ L h news) (hk : ∀ b o, h.get? b = some o → h'.get? b = some o) (hf : h.get? D = none) (hD : h'.get? D = some o) :
    Fr h₀ L h' m ∧ News h₀ L h' ((D, o) :: news) := by
  refine ⟨⟨F.ns.keeps hk, fun b o e => hk b o (F.keep b o e), F.above⟩, fun p hp => ?_⟩
  rcases List.mem_cons.mp hp with rfl | hp
  · refine ⟨hD, fun q => ?_, ?_⟩
    · obtain ⟨oL, _, _, e, _⟩ := F.ns
      have q' : D = L := q
      rw [q', e] at hf; cases hf
    · cases e : h₀.get? D with
      | none => rfl
      | some o' => rw [F.keep _ _ e] at hf; cases hf
  · exact ⟨hk _ _ (N p hp).1, (N p hp).2⟩
theorem fill_k2 (w : World) (h : Heap) : (Mine.hd.heap_39 w.params).In h → Challenge.rw_tv0007_01.row.prog = Challenge.rw_tv0007_01.row.prog := by
  k_fill
  intro _
  rfl
theorem dup_len (l : List Value) : (dup l).length = 2 * l.length := by
  induction l with
  | nil => rfl
  | cons a l ih => simp only [dup, List.flatMap_cons, List.length_append, List.length_cons, List.length_nil] at ih ⊢; omega
theorem twice_call {w : World} {A : Around} {E : Value → Shared → Prop} {s : Shared} {Q : Value → Shared → Prop} {mean : ExcName → Option Value} {mg mb : Str → Option Value} {ax : Addr} {vs : List Value}
    (X : (Mine.hd.heap_39 w.params).In s.heap) (T : Top VV LS mean mg mb s.heap) (hh : A.handled = none) (hroom : A.depth + 1 < recursionLimit)
    (hl : s.heap.IsList ax vs.toArray) (hlen : vs.length ≤ 100)
    (hQ : ∀ h' tk D n q, (∀ b o, s.heap.get? b = some o → h'.get? b = some o) → s.heap.objs.size ≤ D → s.heap.get? D = none → h'.get? D = some (listOf (dup vs ++ [Value.str (Str.ofString "~") q]).toArray n) → Q (.ref D) { s with heap := h', toks := tk }) :
    wpAny (model PP w) A (call (.ref 46) [.ref ax]) Q E s := by
  refine wpAny_call (call_pos_ret (by omega) (X 46 _ rfl) rfl T.nolimit (codeRec_of X (by with_unfolding_all rfl)) rfl (locs rfl) (fun h₁ F => ?_))
  have TR := topRead_of T
  have N := News.nil (h₀ := s.heap) (L := s.heap.objs.size) (h := h₁)
  change wpAny _ _ (execs (_ :: _) (envOf (Str.ofString "_law_twice") _ s.heap.objs.size 46 _)) _ _ _
  walk_at "my steps"
  have hl₁ : h₁.IsList ax vs.toArray := hl.at fun o e => F.keep _ o e
  refine comp_twice (vs := vs) (ax := ax) hh (by with_unfolding_all rfl) (by decide) (by rfl) (by decide) (by rfl) (by rfl) (by decide) (by intro x; with_unfolding_all rfl) (by intro C x; with_unfolding_all rfl) (Nat.le_trans (Nat.mul_le_mul_left 2 hlen) (by decide)) hl₁ ?_ ?_ ?_ ?_
  · intro Q' hQ'
    walk_at "my steps"
    exact hQ' _
  · intro C s₂ m₂ Q' E' F1 hQ'
    have N1 := News.nil (h₀ := h₁) (L := C) (h := s₂.heap)
    have X₁ : (Mine.hd.heap_39 w.params).In h₁ := X.keeps F.keep
    have T₁ := T.keeps F.keep
    walk_at "my steps"
    exact hQ' _ _ _ _ _ _ (by assumption) (by assumption)
  · intro C v s₂ m₂ E' hv hn hm
    refine wpAny_Name (wpAny_loadName_local (by rfl) (by rfl) hn hm ⟨rfl, rfl⟩) (by decide)
  · intro D h' tk n hk hf hD
    obtain ⟨F3, N3⟩ := plain_keep F N hk hf hD
    walk_at "my steps"
    rename_i l₄ h₄ F4 N4 l4
    have hl4 := (N4 _ (.head _)).1
    have hlD := (N4 _ (.tail _ (.head _))).1
    have hw : (dup vs).length ≤ 200 := by rw [dup_len]; omega
    refine add_lists F4 N4 ⟨_, hlD, rfl, _, rfl⟩ ⟨_, hl4, rfl, _, rfl⟩ (fun h₅ F5 N5 => ?_) (Nat.le_trans (Nat.add_le_add hw (Nat.le_refl _)) (show 200 + 1 ≤ sizeLine by decide))
    exact hQ _ _ _ _ _ F5.keep (Nat.le_of_lt (Nat.lt_of_lt_of_le F4.ns.lt (Nat.le_refl _))) (N5 _ (.head _)).2.2 (N5 _ (.head _)).1
end Mine
end
section
open PySem PySem.W PyProof.Rows PySem.Calls
set_option Elab.async false
set_option maxRecDepth 100000
set_option maxHeartbeats 4000000
namespace Mine
theorem offPfLaw : True := by
  w_top off
  exact True.intro
/-- the bit of an int -/
def bitOf (f : Int) (j : Nat) : Bool := decide (f / 2 ^ j % 2 = 1)
theorem nat_and_pow (n j : Nat) : n &&& 2 ^ j = 2 ^ j * (n / 2 ^ j % 2) := by
  have h := Nat.testBit_eq_decide_div_mod_eq (x := n) (i := j)
  apply Nat.eq_of_testBit_eq
  intro k
  rw [Nat.testBit_and, Nat.testBit_two_pow]
  by_cases hk : j = k
  · subst hk
    rw [h]
    have : n / 2 ^ j % 2 = 0 ∨ n / 2 ^ j % 2 = 1 := by omega
    rcases this with e | e <;> simp [e]
  · have : n / 2 ^ j % 2 = 0 ∨ n / 2 ^ j % 2 = 1 := by omega
    rcases this with e | e <;> simp [e, hk]
theorem bitAnd_pow (f : Int) (j : Nat) : Builtin.bitAnd f (1 * 2 ^ j) = 2 ^ j * (f / 2 ^ j % 2) := by
  have hp : (0 : Int) < 2 ^ j := Int.pow_pos (by decide)
  have hc : ((2 ^ j : Nat) : Int) = 2 ^ j := by simp
  have ht : ((2 : Int) ^ j).toNat = 2 ^ j := by rw [← hc]; exact Int.toNat_natCast _
  rw [Int.one_mul]
  by_cases hf : 0 ≤ f
  · rw [bitAnd_pp hf (Int.le_of_lt hp), ht, nat_and_pow]
    obtain ⟨n, rfl⟩ := Int.eq_ofNat_of_zero_le hf
    simp
  · rw [bitAnd_np hf (Int.le_of_lt hp), ht, Nat.and_comm, nat_and_pow]
    unfold Builtin.bitNot
    obtain ⟨n, hn⟩ : ∃ n : Nat, -f - 1 = n := ⟨(-f - 1).toNat, by omega⟩
    have e : f = -(n : Int) - 1 := by omega
    rw [hn]
    have e2 : f / 2 ^ j = -((n / 2 ^ j : Nat) : Int) - 1 := by
      have h1 := Nat.div_add_mod n (2 ^ j)
      have h2 : n % 2 ^ j < 2 ^ j := Nat.mod_lt _ (Nat.two_pow_pos j)
      have h3 : f = (2 ^ j - 1 - ((n % 2 ^ j : Nat) : Int)) + (-((n / 2 ^ j : Nat) : Int) - 1) * 2 ^ j := by
        have : (n : Int) = 2 ^ j * ((n / 2 ^ j : Nat) : Int) + ((n % 2 ^ j : Nat) : Int) := by exact_mod_cast h1.symm
        rw [e]
        rw [Int.sub_mul, Int.neg_mul, Int.mul_comm ((n / 2 ^ j : Nat) : Int)]
        omega
      have h4 : ((n % 2 ^ j : Nat) : Int) < 2 ^ j := by rw [← hc]; exact_mod_cast h2
      rw [h3, Int.add_mul_ediv_right _ _ (Int.ne_of_gt hp), Int.ediv_eq_zero_of_lt (by omega) (by omega)]
      omega
    rw [e2, Int.toNat_natCast]
    generalize n / 2 ^ j = q
    push_cast
    rcases Nat.mod_two_eq_zero_or_one q with hq | hq
    · have : ((-(q : Int)) - 1) % 2 = 1 := by omega
      rw [this, show ((q : Int)) % 2 = 0 by omega]; simp
    · have : ((-(q : Int)) - 1) % 2 = 0 := by omega
      rw [this, show ((q : Int)) % 2 = 1 by omega]; simp
/-- what is left of the flags after the first j bits -/
def restOf (f : Int) (j : Nat) : Int := f / 2 ^ j * 2 ^ j
theorem restOf_zero (f : Int) : restOf f 0 = f := by simp [restOf]
theorem restOf_bit (f : Int) (j : Nat) : restOf f j / 2 ^ j % 2 = f / 2 ^ j % 2 := by
  rw [restOf, Int.mul_ediv_cancel _ (Int.ne_of_gt (Int.pow_pos (by decide)))]
theorem restOf_succ (f : Int) (j : Nat) : restOf f j = restOf f (j + 1) + 2 ^ j * (f / 2 ^ j % 2) := by
  have e : f / 2 ^ (j + 1) = f / 2 ^ j / 2 := by rw [Int.pow_succ, Int.ediv_ediv_of_nonneg (Int.le_of_lt (Int.pow_pos (by decide)))]
  unfold restOf
  rw [e, Int.pow_succ]
  generalize f / 2 ^ j = q
  have := Int.mul_ediv_add_emod q 2
  have h2 : q * 2 ^ j = (2 * (q / 2) + q % 2) * 2 ^ j := by rw [this]
  rw [h2, Int.add_mul, Int.mul_comm (2 ^ j) 2, Int.mul_comm (2 ^ j) (q % 2), ← Int.mul_assoc, Int.mul_comm (q / 2) 2]
theorem and_zero {f : Int} {j : Nat} (h : Builtin.bitAnd (restOf f j) (1 * 2 ^ j) = 0) : bitOf f j = false ∧ restOf f (j + 1) = restOf f j := by
  rw [bitAnd_pow, restOf_bit] at h
  have hp : (0 : Int) < 2 ^ j := Int.pow_pos (by decide)
  have h0 : f / 2 ^ j % 2 = 0 := (Int.mul_eq_zero.mp h).resolve_left (Int.ne_of_gt hp)
  refine ⟨by simp [bitOf, h0], ?_⟩
  rw [restOf_succ f j, h0]; simp
theorem and_ne {f : Int} {j : Nat} (h : Builtin.bitAnd (restOf f j) (1 * 2 ^ j) ≠ 0) : bitOf f j = true ∧ Builtin.bitXor (restOf f j) (1 * 2 ^ j) = restOf f (j + 1) := by
  rw [bitXor_and, bitAnd_pow, restOf_bit]
  rw [bitAnd_pow, restOf_bit] at h
  have h1 : f / 2 ^ j % 2 = 1 := by
    have : f / 2 ^ j % 2 = 0 ∨ f / 2 ^ j % 2 = 1 := by omega
    rcases this with e | e
    · rw [e] at h; simp at h
    · exact e
  refine ⟨by simp [bitOf, h1], ?_⟩
  rw [restOf_succ f j, h1]
  omega
def bitWords (f : Int) (j : Nat) : List Str := ((List.range j).filter (bitOf f)).map fun k => lawWords.getD k (Str.ofString "")
theorem bitWords_no {f : Int} {j : Nat} (h : bitOf f j = false) : bitWords f (j + 1) = bitWords f j := by
  simp [bitWords, List.range_succ, List.filter_append, h]
theorem bitWords_yes {f : Int} {j : Nat} (h : bitOf f j = true) : bitWords f (j + 1) = bitWords f j ++ [lawWords.getD j (Str.ofString "")] := by
  simp [bitWords, List.range_succ, List.filter_append, h]
theorem rest_end {f : Int} {j k : Nat} (h : restOf f j = 0) (hk : j ≤ k) : f / 2 ^ k = 0 := by
  have hp : (0 : Int) < 2 ^ j := Int.pow_pos (by decide)
  have h0 : f / 2 ^ j = 0 := (Int.mul_eq_zero.mp h).resolve_right (Int.ne_of_gt hp)
  obtain ⟨d, rfl⟩ := Nat.exists_eq_add_of_le hk
  rw [Int.pow_add, ← Int.ediv_ediv_of_nonneg (Int.le_of_lt hp), h0]; simp
theorem bitWords_end {f : Int} {j : Nat} (h : restOf f j = 0) : ∀ k, j ≤ k → bitWords f k = bitWords f j := by
  intro k hk
  induction hk with
  | refl => rfl
  | @step k hk ih =>
    have e : bitOf f k = false := by
      have := rest_end h hk
      simp [bitOf, this]
    rw [bitWords_no e, ih]
/-- the words that pretty_flags tells -/
def flagWords (f : Int) : List Str := bitWords f 32 ++ (if restOf f 32 ≠ 0 then [baseText "0x" 16 (restOf f 32)] else if f = 0 then [baseText "0x" 16 0] else [])
theorem flagWords_brk {f : Int} {j : Nat} (hj : j < 32) (hb : bitOf f j = true) (hr : restOf f (j + 1) = 0) : flagWords f = bitWords f (j + 1) := by
  have h1 : restOf f 32 = 0 := by rw [restOf, rest_end hr (by omega)]; simp
  have h2 : f ≠ 0 := by rintro rfl; simp [bitOf] at hb
  unfold flagWords
  rw [if_neg (fun q => q h1), if_neg h2, List.append_nil, bitWords_end hr 32 (by omega)]
theorem bitWords_nil : ∀ j, bitWords 0 j = [] := fun j => by
  unfold bitWords
  rw [List.filter_eq_nil_iff.mpr (fun a _ => by simp [bitOf])]; rfl
theorem flagWords_else {f : Int} (h : f = 0 ∨ restOf f 32 ≠ 0) : flagWords f = bitWords f 32 ++ [baseText "0x" 16 (restOf f 32)] := by
  unfold flagWords
  rcases h with rfl | h
  · rw [if_neg (by simp [restOf]), if_pos rfl]
    rfl
  · rw [if_pos h]
theorem digits_shift (n : Nat) (hn : 0 < n) : Nat.toDigits 16 (n * 2 ^ 32) = Nat.toDigits 16 n ++ List.replicate 8 '0' := by
  have one : ∀ m, 0 < m → Nat.toDigits 16 (16 * m) = Nat.toDigits 16 m ++ ['0'] := fun m hm => by
    have := Nat.toDigits_append_toDigits (b := 16) (n := m) (d := 0) (by decide) hm (by decide)
    rw [← Nat.add_zero (16 * m), ← this]
    rfl
  have e : n * 2 ^ 32 = 16 * (16 * (16 * (16 * (16 * (16 * (16 * (16 * n))))))) := by omega
  rw [e, one _ (by omega), one _ (by omega), one _ (by omega), one _ (by omega), one _ (by omega), one _ (by omega), one _ (by omega), one _ hn]
  simp [List.replicate]
theorem hex_shift (z : Int) (hz : z ≠ 0) : baseText "0x" 16 (z * 2 ^ 32) = baseText "0x" 16 z ++ Str.ofString "00000000" := by
  have e1 : (z * 2 ^ 32).natAbs = z.natAbs * 2 ^ 32 := by rw [Int.natAbs_mul]; rfl
  have e2 : (z * 2 ^ 32 < 0) ↔ (z < 0) := by omega
  unfold baseText
  rw [e1, digits_shift _ (by omega)]
  have e3 : (if z * 2 ^ 32 < 0 then "-" else "") = (if z < 0 then "-" else "") := by
    by_cases h : z < 0
    · rw [if_pos h, if_pos (e2.mpr h)]
    · rw [if_neg h, if_neg (fun q => h (e2.mp q))]
  rw [e3]
  generalize Str.ofString (if z < 0 then "-" else "") ++ Str.ofString "0x" = p
  have e4 : Str.ofString (String.ofList (Nat.toDigits 16 z.natAbs ++ List.replicate 8 '0')) = Str.ofString (String.ofList (Nat.toDigits 16 z.natAbs)) ++ Str.ofString "00000000" := by
    rw [Str.ofString_eq_toList, Str.ofString_eq_toList, Str.ofString_eq_toList, String.toList_ofList, String.toList_ofList, List.map_append, ← List.append_toArray]
    rfl
  rw [e4]
  show _ = (⟨(p.cps ++ _) ++ _⟩ : Str)
  rw [Array.append_assoc]
  rfl
theorem hex_len (z : Int) (B : Nat) (h : z.natAbs < 2 ^ B) : (baseText "0x" 16 z).length ≤ B + 4 := by
  have h1 : (Nat.toDigits 16 z.natAbs).length ≤ B + 1 := by
    rw [Nat.length_toDigits_le_iff (by decide) (by omega)]
    calc z.natAbs < 2 ^ B := h
      _ ≤ 16 ^ B := Nat.pow_le_pow_left (by decide) _
      _ ≤ 16 ^ (B + 1) := Nat.pow_le_pow_right (by decide) (by omega)
  unfold baseText
  have la : ∀ a b : Str, (a ++ b).length = a.length + b.length := fun a b => by
    show (a.cps ++ b.cps).size = _
    rw [Array.size_append]; rfl
  rw [la, la, ofString_len, ofString_len, ofString_len]
  have e1 : (String.ofList (Nat.toDigits 16 z.natAbs)).length = (Nat.toDigits 16 z.natAbs).length := by simp
  have e2 : (if z < 0 then "-" else "").length ≤ 1 := by split <;> decide
  have e3 : "0x".length = 2 := by decide
  omega
theorem sum_len_le {l : List Str} {c : Nat} (h : ∀ x ∈ l, x.length ≤ c) : (l.map (·.length)).sum ≤ l.length * c := by
  induction l with
  | nil => simp
  | cons a l ih =>
    have h1 := h a (.head _)
    have h2 := ih fun x hx => h x (.tail _ hx)
    simp only [List.map_cons, List.sum_cons, List.length_cons, Nat.succ_mul]
    omega
theorem lawWords_len : ∀ k < 32, (lawWords.getD k (Str.ofString "")).length ≤ 100 := by decide +kernel
theorem flagWords_sum {f : Int} {B : Nat} (h : (restOf f 32).natAbs < 2 ^ B) : ((flagWords f).map (·.length)).sum ≤ 3200 + (B + 4) ∧ (flagWords f).length ≤ 33 := by
  have h1 : ((bitWords f 32).map (·.length)).sum ≤ (bitWords f 32).length * 100 := sum_len_le fun x hx => by
    obtain ⟨k, hk, rfl⟩ := List.mem_map.mp hx
    exact lawWords_len k (by simpa using (List.mem_filter.mp hk).1)
  have h2 : (bitWords f 32).length ≤ 32 := by
    unfold bitWords
    rw [List.length_map]
    exact Nat.le_trans (List.length_filter_le _ _) (by simp)
  have h3 := hex_len _ _ h
  have h4 : (baseText "0x" 16 0).length = 3 := by decide +kernel
  unfold flagWords
  split
  · simp only [List.map_append, List.sum_append, List.length_append, List.map_cons, List.map_nil, List.sum_cons, List.sum_nil, List.length_cons, List.length_nil]
    omega
  · split
    · simp only [List.map_append, List.sum_append, List.length_append, List.map_cons, List.map_nil, List.sum_cons, List.sum_nil, List.length_cons, List.length_nil]
      omega
    · simp only [List.append_nil]
      omega
end Mine
end
section
open PySem PySem.W PyProof.Rows PySem.Calls PySem.Spec
set_option Elab.async false
set_option maxRecDepth 100000
set_option maxHeartbeats 4000000
namespace Mine
theorem offLoops : True := by
  w_top off
  exact True.intro
/-- where a turn of a loop ends -/
def Turn (h₀ : Heap) (L : Addr) (s : Shared) (p : Addr × Obj) (J : (Str → Option Value) → List (Addr × Obj) → Prop) (s' : Shared) : Prop :=
  ∃ h' tk m news, s' = { s with heap := h', toks := tk } ∧ Fr h₀ L h' m ∧ News h₀ L h' (p :: news) ∧ J m news
theorem fr_moved {h₀ h h' : Heap} {L : Addr} {I : Addr} {m : Str → Option Value} (F : Fr h₀ L h m) (hk : ∀ b o, b ∉ [I] → h.get? b = some o → h'.get? b = some o) (hIL : I ≠ L) (hI0 : h₀.get? I = none) : Fr h₀ L h' m :=
  ⟨F.ns.at' fun o e => hk _ o (by simp only [List.mem_singleton]; exact fun q => hIL q.symm) e, fun b o e => hk b o (by simp only [List.mem_singleton]; exact fun q => by rw [q, hI0] at e; cases e) (F.keep b o e), F.above⟩
theorem news_moved {h₀ h h' : Heap} {L : Addr} {I : Addr} {news : List (Addr × Obj)} {o : Obj} (N : News h₀ L h news) (hk : ∀ b o, b ∉ [I] → h.get? b = some o → h'.get? b = some o) (hIL : I ≠ L) (hI0 : h₀.get? I = none) (hoff : ∀ p ∈ news, p.1 ≠ I) (hI : h'.get? I = some o) : News h₀ L h' ((I, o) :: news) := fun p hp => by
  rcases List.mem_cons.mp hp with rfl | hp
  · exact ⟨hI, hIL, hI0⟩
  · exact ⟨hk _ _ (by simp only [List.mem_singleton]; exact hoff p hp) (N p hp).1, (N p hp).2⟩
section
variable {prog : Program} {w : World} {A : Around} {E : Value → Shared → Prop} {s : Shared} {h₀ : Heap} {L : Addr} {env : Env}
theorem for_core {target : Expr} {body orelse : List Stmt} {I : Addr} {fp : List Addr} {n : Nat} {P : Nat → Value → Prop} {St : Nat → Heap → Prop} {R : Result → Shared → Prop} {m₀ : Str → Option Value} {news₀ : List (Addr × Obj)} {o₀ : Obj}
    (J : Nat → (Str → Option Value) → List (Addr × Obj) → Prop) (W : Walks prog w A I fp [I] n P St)
    (hfp : ∀ b ∈ fp, b ≠ I → (∃ o, h₀.get? b = some o) ∨ (∃ o, ∀ i m news, J i m news → (b, o) ∈ news))
    (hob : ∀ i h, St i h → ∃ o f, h.get? I = some o ∧ o.data = .fields f)
    (hoff : ∀ i m news, J i m news → ∀ p ∈ news, (∀ f, p.2.data ≠ .fields f) ∨ p.1 ≠ I)
    (F : Fr h₀ L s.heap m₀) (N : News h₀ L s.heap ((I, o₀) :: news₀)) (hst : St 0 s.heap) (h0 : J 0 m₀ news₀)
    (ht : ∀ v, letOwnedTupleGo target (.ref I) v = pure ())
    (step : ∀ i v h tk m news o E', i < n → P i v → J i m news → (∀ p ∈ news, p.1 ≠ I) → Fr h₀ L h m → News h₀ L h ((I, o) :: news) →
      wpAny (model prog w) A (assign target env v) (fun _ s₂ => wpAny (model prog w) A (execs body env) (fun f s₃ => match f with
        | .next | .cont => Turn h₀ L s (I, o) (J (i + 1)) s₃
        | .brk => R (.ok .next) s₃
        | .ret v => R (.ok (.ret v)) s₃) E' s₂) E' { s with heap := h, toks := tk })
    (done : ∀ h tk m news E', J n m news → Fr h₀ L h m → News h₀ L h news →
      wpAny (model prog w) A (execs orelse env) (fun f s₃ => R (.ok f) s₃) E' { s with heap := h, toks := tk }) :
    codeAny (model prog w) A (.forLoop target (.ref I) body orelse env) R s := by
  refine codeAny_forLoop (fun k s' => ∃ h tk i m news o, s' = { s with heap := h, toks := tk } ∧ i ≤ n ∧ k = n + 1 - i ∧ Fr h₀ L h m ∧ News h₀ L h ((I, o) :: news) ∧ J i m news ∧ St i h) ?_ (n + 1) ⟨s.heap, s.toks, 0, m₀, news₀, o₀, rfl, Nat.zero_le _, rfl, F, N, h0, hst⟩ ht
  rintro k s' ⟨h, tk, i, m, news, o, rfl, hi, rfl, F', N', hJ, hst'⟩
  have hIo := N' _ (.head _)
  obtain ⟨o1, f1, ho1, hf1⟩ := hob _ _ hst'
  have off : ∀ p ∈ news, p.1 ≠ I := fun p hp => by
    rcases hoff _ _ _ hJ p hp with hd | hd
    · intro q
      have e1 := (N' p (.tail _ hp)).1
      rw [q, ho1] at e1
      cases e1
      exact hd _ hf1
    · exact hd
  have NN : News h₀ L h news := fun p hp => N' p (.tail _ hp)
  by_cases hlt : i < n
  · refine W.item i _ _ _ hlt hst' fun v h₁ tk₁ hP hst₁ hk₁ => ?_
    obtain ⟨o2, f2, ho2, hf2⟩ := hob _ _ hst₁
    have F1 := fr_moved F' hk₁ hIo.2.1 hIo.2.2
    have N1 := news_moved NN hk₁ hIo.2.1 hIo.2.2 off ho2
    refine wpAny_mono (step i v h₁ tk₁ m news o2 _ hlt hP hJ off F1 N1) (fun _ s₂ h₂ => wpAny_mono h₂ (fun f s₃ h₃ => ?_) fun _ _ x => x) fun _ _ x => x
    have back : Turn h₀ L s (I, o2) (J (i + 1)) s₃ → ∃ m, m < n + 1 - i ∧ ∃ h tk i m_1 news o, s₃ = { s with heap := h, toks := tk } ∧ i ≤ n ∧ m = n + 1 - i ∧ Fr h₀ L h m_1 ∧ News h₀ L h ((I, o) :: news) ∧ J i m_1 news ∧ St i h := by
      rintro ⟨h', tk', m', news', rfl, F3, N3, hJ3⟩
      refine ⟨n + 1 - (i + 1), by omega, h', tk', i + 1, m', news', o2, rfl, hlt, rfl, F3, N3, hJ3, W.frame _ _ _ hst₁ fun b hb o e => ?_⟩
      by_cases hbI : b = I
      · subst hbI
        rw [ho2] at e; cases e
        exact (N3 _ (.head _)).1
      · rcases hfp b hb hbI with ⟨o', ho'⟩ | ⟨o', ho'⟩
        · rw [F1.keep _ _ ho'] at e; cases e
          exact F3.keep _ _ ho'
        · have e1 := (N1 _ (.tail _ (ho' _ _ _ hJ))).1
          rw [e1] at e; cases e
          exact (N3 _ (.tail _ (ho' _ _ _ hJ3))).1
    cases f with
    | next => exact back h₃
    | cont => exact back h₃
    | brk => exact h₃
    | ret v => exact h₃
  · obtain rfl : i = n := by omega
    refine W.done _ _ _ hst' fun h₁ tk₁ hk₁ => ?_
    dsimp only
    exact done _ _ _ _ _ hJ (fr_moved F' hk₁ hIo.2.1 hIo.2.2) fun p hp => ⟨hk₁ _ _ (by simp only [List.mem_singleton]; exact off p hp) (NN p hp).1, (NN p hp).2⟩
theorem news_fresh {h : Heap} {news : List (Addr × Obj)} {o : Obj} {m : Str → Option Value} (F : Fr h₀ L h m) (N : News h₀ L h news) (ho : o.isFreed = false := by rfl) : News h₀ L (h.push o) ((h.objs.size, o) :: news) := fun p hp => by
  have fresh : ∀ {k : Heap}, (∀ b o', k.get? b = some o' → h.get? b = some o') → k.get? h.objs.size = none := fun {k} hk => by
    cases e : k.get? h.objs.size with
    | none => rfl
    | some o' => exact absurd (Heap.lt_size (hk _ _ e)) (Nat.lt_irrefl _)
  rcases List.mem_cons.mp hp with rfl | hp
  · refine ⟨Heap.get?_push_size _ ho, fun q => ?_, fresh F.keep⟩
    have q' : h.objs.size = L := q
    have := F.ns.lt
    rw [← q'] at this
    exact absurd this (Nat.lt_irrefl _)
  · exact ⟨Heap.get?_push_of_some _ (N p hp).1, (N p hp).2⟩
theorem off_new {h : Heap} {m : Str → Option Value} {news news₀ : List (Addr × Obj)} (N : News h₀ L h news₀) (hh : ∀ p ∈ news, (∀ f, p.2.data ≠ .fields f) ∨ ∃ q ∈ news₀, q.1 = p.1) : ∀ p ∈ news, (∀ f, p.2.data ≠ .fields f) ∨ p.1 ≠ h.objs.size := fun p hp => by
  rcases hh p hp with hd | ⟨q, hq, e⟩
  · exact .inl hd
  · exact .inr (by rw [← e]; exact Nat.ne_of_lt (Heap.lt_size (N q hq).1))
theorem for_range {target : Expr} {iter : Expr} {body orelse : List Stmt} {pos : Pos} {a b : Int} {n : Nat} {Q : Flow → Shared → Prop} {m₀ : Str → Option Value} {news₀ : List (Addr × Obj)}
    (J : Nat → (Str → Option Value) → List (Addr × Obj) → Prop) (hh : A.handled = none)
    (hsmall : Builtin.Range.small a b 1 = true) (hn : Builtin.Range.rangeSize a b 1 = (n : Int))
    (hoff : ∀ i m news, J i m news → ∀ p ∈ news, (∀ f, p.2.data ≠ .fields f) ∨ ∃ q ∈ news₀, q.1 = p.1)
    (hiter : ∀ Q' : Value → Shared → Prop, (∀ h' tk r t u v, Fr h₀ L h' m₀ → News h₀ L h' news₀ → IsRange h' r a b 1 t u v → Q' (.ref r) { s with heap := h', toks := tk }) → wpAny (model prog w) A (eval iter env) Q' E s)
    (h0 : J 0 m₀ news₀) (ht : ∀ I v, letOwnedTupleGo target (.ref I) v = pure ()) (hs : ∀ x, foldedSetIterable iter env x = pure x)
    (step : ∀ I i t h tk m news o E', i < n → J i m news → (∀ p ∈ news, p.1 ≠ I) → Fr h₀ L h m → News h₀ L h ((I, o) :: news) →
      wpAny (model prog w) A (assign target env (.int (a + i) t)) (fun _ s₂ => wpAny (model prog w) A (execs body env) (fun f s₃ => match f with
        | .next | .cont => Turn h₀ L s (I, o) (J (i + 1)) s₃
        | .brk => Q .next s₃
        | .ret v => Q (.ret v) s₃) E' s₂) E' { s with heap := h, toks := tk })
    (done : ∀ h tk m news E', J n m news → Fr h₀ L h m → News h₀ L h news →
      wpAny (model prog w) A (execs orelse env) Q E' { s with heap := h, toks := tk }) :
    wpAny (model prog w) A (exec (.For target iter body orelse pos) env) Q E s := by
  refine wpAny_For (hiter _ fun h' tk r t u v F' N' hr => wpAny_pyIter_range hr hsmall ?_) hs
  refine for_core (s := _) (I := h'.objs.size) (fp := [h'.objs.size]) (m₀ := m₀) (news₀ := news₀) J (Walks.range hh h'.objs.size a 1 n) (fun b hb hbI => absurd (List.mem_singleton.mp hb) hbI) (fun i h hi => ⟨_, _, hi, rfl⟩)
    (fun i m news hJ => off_new (m := m₀) N' (hoff i m news hJ)) (F'.push _) (news_fresh F' N') ?_ h0 (ht _) ?_ ?_
  · show IsRangeIter _ _ _ _ _; rw [hn]; simpa using Heap.get?_push_size _ rfl
  · rintro i v h tk₂ m news o E' hi ⟨t', rfl⟩ hJ off F₁ N₁
    have := step _ i t' h tk₂ m news o E' hi hJ off F₁ N₁
    rw [Int.mul_one]
    exact this
  · intro h tk₂ m news E' hJ F₁ N₁
    exact done h tk₂ m news E' hJ F₁ N₁
theorem for_list {target : Expr} {iter : Expr} {body orelse : List Stmt} {pos : Pos} {vs : List Value} {ax : Addr} {oax : Obj} {Q : Flow → Shared → Prop} {m₀ : Str → Option Value} {news₀ : List (Addr × Obj)}
    (J : Nat → (Str → Option Value) → List (Addr × Obj) → Prop) (hh : A.handled = none)
    (hax : ∀ i m news, J i m news → (ax, oax) ∈ news)
    (hoff : ∀ i m news, J i m news → ∀ p ∈ news, (∀ f, p.2.data ≠ .fields f) ∨ ∃ q ∈ news₀, q.1 = p.1)
    (hiter : ∀ Q' : Value → Shared → Prop, (∀ h' tk, Fr h₀ L h' m₀ → News h₀ L h' news₀ → h'.IsList ax vs.toArray → (ax, oax) ∈ news₀ → Q' (.ref ax) { s with heap := h', toks := tk }) → wpAny (model prog w) A (eval iter env) Q' E s)
    (h0 : J 0 m₀ news₀) (ht : ∀ I v, letOwnedTupleGo target (.ref I) v = pure ()) (hs : ∀ x, foldedSetIterable iter env x = pure x)
    (step : ∀ I i v h tk m news o E', i < vs.length → vs[i]? = some v → J i m news → (∀ p ∈ news, p.1 ≠ I) → Fr h₀ L h m → News h₀ L h ((I, o) :: news) →
      wpAny (model prog w) A (assign target env v) (fun _ s₂ => wpAny (model prog w) A (execs body env) (fun f s₃ => match f with
        | .next | .cont => Turn h₀ L s (I, o) (J (i + 1)) s₃
        | .brk => Q .next s₃
        | .ret v => Q (.ret v) s₃) E' s₂) E' { s with heap := h, toks := tk })
    (done : ∀ h tk m news E', J vs.length m news → Fr h₀ L h m → News h₀ L h news →
      wpAny (model prog w) A (execs orelse env) Q E' { s with heap := h, toks := tk }) :
    wpAny (model prog w) A (exec (.For target iter body orelse pos) env) Q E s := by
  refine wpAny_For (hiter _ fun h' tk F' N' hl hm => wpAny_pyIter_list hl ?_) hs
  have hlt : ax < h'.objs.size := Heap.lt_size (N' _ hm).1
  have hW := Walks.list (prog := prog) (w := w) hh h'.objs.size ax (Nat.ne_of_lt hlt) vs.toArray
  rw [List.size_toArray] at hW
  refine for_core (s := _) (I := h'.objs.size) (m₀ := m₀) (news₀ := news₀) J hW (fun b hb hbI => .inr ⟨oax, fun i m news hJ => ?_⟩) (fun i h hi => ?_)
    (fun i m news hJ => off_new (m := m₀) N' (hoff i m news hJ)) (F'.push _) (news_fresh F' N') ?_ h0 (ht _) ?_ ?_
  · have : b = ax := by simpa [hbI] using hb
    rw [this]; exact hax i m news hJ
  · obtain ⟨o, h1, h2⟩ := hi.1
    exact ⟨o, _, h1, h2.2⟩
  · exact ⟨⟨_, Heap.get?_push_size _ rfl, rfl, rfl⟩, hl.at fun o e => Heap.get?_push_of_some _ e⟩
  · intro i v h tk₂ m news o E' hi hv hJ off F₁ N₁
    exact step _ i v h tk₂ m news o E' hi (by simpa using hv) hJ off F₁ N₁
  · intro h tk₂ m news E' hJ F₁ N₁
    exact done h tk₂ m news E' hJ F₁ N₁
theorem store_x {x : Str} {v : Value} {pos : Pos} {m : Str → Option Value} {news : List (Addr × Obj)} {Q : Unit → Shared → Prop} (F : Fr h₀ L s.heap m) (N : News h₀ L s.heap news) (hL : env.locals = L) (hx : env.kindOf x = some .local)
    (hp : (env.scope.kind == .class || (env.scope.kind == .module && env.locals != env.globals)) = false)
    (h : ∀ h' tk, Fr h₀ L h' (fun y => if y = x then some v else m y) → News h₀ L h' news → Q () { s with heap := h', toks := tk }) : wpAny (model prog w) A (assign (.Name x pos) env v) Q E s := by
  subst hL
  refine wpAny_assign_Name (wpAny_storeName_local hx F.ns (fun h₂ hn₂ hs₂ => h h₂ _ ⟨hn₂, fun b o e => hs₂.extBut b o (fun q => ?_) (F.keep b o e), F.above⟩ fun p hp => ⟨hs₂.extBut _ _ (N p hp).2.1 (N p hp).1, (N p hp).2⟩) hp)
  have := F.above
  rw [← q] at this
  exact absurd (Heap.lt_size e) (Nat.not_lt.mpr this)
end
end Mine
end
section
open PySem PySem.W PyProof.Rows PySem.Calls
set_option Elab.async false
set_option maxRecDepth 100000
set_option maxHeartbeats 4000000
namespace Mine
theorem offPf1 : True := by
  w_top off
  exact True.intro
local macro_rules | `(tactic| walk_at "pad 8 0") => `(tactic| fail)
local macro_rules | `(tactic| walk_at "pad 8 1") => `(tactic| fail)
local macro_rules | `(tactic| walk_at "pad 8 2") => `(tactic| fail)
local macro_rules | `(tactic| walk_at "pad 8 3") => `(tactic| fail)
local macro_rules | `(tactic| walk_at "pad 8 4") => `(tactic| fail)
local macro_rules | `(tactic| walk_at "pad 8 5") => `(tactic| fail)
local macro_rules | `(tactic| walk_at "pad 8 6") => `(tactic| fail)
local macro_rules | `(tactic| walk_at "my steps") => `(tactic| repeat' (first | ((fail_if_success (with_reducible show wpAny _ _ (exec (Stmt.For _ _ _ _ _) _) _ _ _)); (fail_if_success (with_reducible show wpAny _ _ (call (Value.builtin "list.append") _) _ _ _)); (fail_if_success (with_reducible show wpAny _ _ (call (Value.builtin "dict.get") _) _ _ _)); first | (k_unfold; (try dsimp only)) | walk1 | (dsimp only; walk1) | (leave1; (try dsimp only)))))
theorem fill_k3 (w : World) (h : Heap) : (Mine.hd.heap_39 w.params).In h → Challenge.rw_tv0007_01.row.prog = Challenge.rw_tv0007_01.row.prog := by
  k_fill
  intro _
  rfl
noncomputable abbrev pfScope : Scope := sScope (nth PP.main.body 4)
abbrev flagTab : List (Int × PyData) := [(1, PyData.str { cps := #[79, 80, 84, 73, 77, 73, 90, 69, 68] }),
      (2, PyData.str { cps := #[78, 69, 87, 76, 79, 67, 65, 76, 83] }),
      (4, PyData.str { cps := #[86, 65, 82, 65, 82, 71, 83] }),
      (8, PyData.str { cps := #[86, 65, 82, 75, 69, 89, 87, 79, 82, 68, 83] }),
      (16, PyData.str { cps := #[78, 69, 83, 84, 69, 68] }),
      (32, PyData.str { cps := #[71, 69, 78, 69, 82, 65, 84, 79, 82] }),
      (64, PyData.str { cps := #[78, 79, 70, 82, 69, 69] }),
      (128, PyData.str { cps := #[67, 79, 82, 79, 85, 84, 73, 78, 69] }),
      (256, PyData.str { cps := #[73, 84, 69, 82, 65, 66, 76, 69, 95, 67, 79, 82, 79, 85, 84, 73, 78, 69] }),
      (512, PyData.str { cps := #[65, 83, 89, 78, 67, 95, 71, 69, 78, 69, 82, 65, 84, 79, 82] })]
def isStr (d : PyData) (x : Str) : Bool := match d with
  | .str y => y == x
  | _ => false
theorem isStr_eq {d : PyData} {x : Str} (h : isStr d x = true) : d = .str x := by
  unfold isStr at h
  split at h
  · rw [eq_of_beq h]
  · cases h
theorem flag_word (j : Nat) (hj : j < 32) : (KTD.datumAt (1 * 2 ^ j : Int) flagTab).getD (.str (baseText "0x" 16 (1 * 2 ^ j))) = .str (lawWords.getD j (Str.ofString "")) := by
  have : ∀ j < 32, isStr ((KTD.datumAt (1 * 2 ^ j : Int) flagTab).getD (.str (baseText "0x" 16 (1 * 2 ^ j)))) (lawWords.getD j (Str.ofString "")) = true := by decide +kernel
  exact isStr_eq (this j hj)
theorem flag_len : ∀ j < 32, (baseText "0x" 16 (1 * 2 ^ j : Int)).length ≤ 100 := by decide +kernel
theorem get_flag {prog : Program} {w : World} {A : Around} {E : Value → Shared → Prop} {s : Shared} {h₀ : Heap} {L a : Addr} {m : Str → Option Value} {j : Nat} {t z : Tok} {Q : Value → Shared → Prop}
    (K : KTD.Keyed h₀ a flagTab) (F : Fr h₀ L s.heap m) (hj : j < 32) (h : ∀ t, Q (.str (lawWords.getD j (Str.ofString "")) t) { s with toks := s.toks + 1 }) :
    wpAny (model prog w) A (call (.builtin "dict.get") [.ref a, .int (1 * 2 ^ j) t, .str (baseText "0x" 16 (1 * 2 ^ j)) z]) Q E s :=
  call_get2_intTab (K.keep F.keep prog w) (.str _ _) fun v hv => by
    rw [KTD.lookup_keyed, flag_word j hj] at hv
    obtain ⟨t, rfl⟩ := PyProof.V.Flat.str_inv hv
    exact h t
def PfEnd (h₀ : Heap) (L : Addr) (s : Shared) (al : Addr) (ws : List Str) (s' : Shared) : Prop :=
  ∃ h' tk m Vs n, s' = { s with heap := h', toks := tk } ∧ Fr h₀ L h' m ∧ News h₀ L h' [(al, listOf Vs.toArray n)] ∧ StrsAre Vs ws ∧ Says m [(Str.ofString "names", .ref al)]
def PfJ (al : Addr) (f : Int) (j : Nat) (m : Str → Option Value) (news : List (Addr × Obj)) : Prop :=
  ∃ Vs n t, StrsAre Vs (bitWords f j) ∧ news = [(al, listOf Vs.toArray n)] ∧ Says m [(Str.ofString "flags", .int (restOf f j) t), (Str.ofString "names", .ref al)] ∧ (f = 0 ∨ restOf f j ≠ 0)
theorem bitWords_len (f : Int) (j : Nat) : (bitWords f j).length ≤ j := by
  unfold bitWords
  rw [List.length_map]
  exact Nat.le_trans (List.length_filter_le _ _) (by simp)
theorem pf_turn {w : World} {A : Around} {s s0 : Shared} {h₀ : Heap} {L al I : Addr} {m : Str → Option Value} {mean : ExcName → Option Value} {mg mb : Str → Option Value} {f : Int} {j : Nat} {t ti : Tok} {o : Obj} {E : Value → Shared → Prop} {Vs : List Value} {n : Nat}
    (X : (Mine.hd.heap_39 w.params).In h₀) (T : Top VV LS mean mg mb h₀) (hj : j < 32) (hs : ∃ h tk, s = { s0 with heap := h, toks := tk }) (hia : I ≠ al)
    (S : Says m [(Str.ofString "flags", .int (restOf f j) t), (Str.ofString "names", .ref al), (Str.ofString "i", .int ((0 : Int) + j) ti)]) (hf : f = 0 ∨ restOf f j ≠ 0) (hV : StrsAre Vs (bitWords f j))
    (F : Fr h₀ L s.heap m) (N : News h₀ L s.heap [(I, o), (al, listOf Vs.toArray n)]) :
    wpAny (model PP w) A (execs (sBody (nth (defBody 4) 1)) (envOf (Str.ofString "pretty_flags") pfScope L 29 (Value.ref 28)))
      (fun g s' => match g with
        | .next | .cont => Turn h₀ L s0 (I, o) (PfJ al f (j + 1)) s'
        | .brk => PfEnd h₀ L s0 al (flagWords f) s'
        | .ret _ => False) E s := by
  obtain ⟨hp, tk, rfl⟩ := hs
  have hVl : Vs.length ≤ 32 := by rw [hV.len_eq]; exact Nat.le_trans (bitWords_len _ _) (Nat.le_of_lt hj)
  generalize hQ : (fun (g : Flow) (s' : Shared) => match g with
        | .next | .cont => Turn h₀ L s0 (I, o) (PfJ al f (j + 1)) s'
        | .brk => PfEnd h₀ L s0 al (flagWords f) s'
        | .ret _ => False) = QQ
  rw [Int.zero_add] at S
  have F := fr_says F _ S
  dsimp only [kstB] at F
  have TR := topRead_of T
  have hlen := flag_len j hj
  have hj0 : (0 : Int) ≤ (j : Int) := by omega
  have hj1 : (j : Int) < 32 := by omega
  change wpAny _ _ (execs (_ :: _) (envOf _ { kind := _, names := _ :: _, isGenerator := _, isCoroutine := _, more := _ } L 29 _)) _ _ _
  walk_at "my steps"
  · rename_i tk0 h1 F1 N1 a1 ky
    simp only [Int.toNat_natCast] at F1 a1 ⊢
    obtain ⟨hb, hx⟩ := and_ne a1
    refine P.hex_of_int ?_ (Nat.le_trans hlen (by decide))
    walk_at "my steps"
    refine get_flag ky F1 hj (fun t2 => ?_)
    walk_at "my steps"
    refine append_x (pre := [(I, o)]) (post := []) F1 N1 (by intro p hp; rw [List.mem_singleton.mp hp]; exact hia) (by intro p hp; cases hp) (Nat.le_trans hVl (by decide)) (fun h2 n2 F2 N2 => ?_)
    dsimp only [List.cons_append, List.nil_append] at N2
    walk_at "my steps"
    · rename_i h3 F3 N3 a3
      rw [hx] at F3 a3
      subst hQ
      exact ⟨h3, _, _, _, rfl, F3, N3, _, _, _, by rw [bitWords_yes hb]; exact Mine.StrsAre.snoc hV, rfl, ⟨by rfl, by rfl, trivial⟩, .inr a3⟩
    · rename_i h3 F3 N3 a3
      rw [hx] at F3 a3
      subst hQ
      exact ⟨h3, _, _, _, _, rfl, F3, fun p hp => N3 p (.tail _ hp), by rw [flagWords_brk hj hb a3, bitWords_yes hb]; exact Mine.StrsAre.snoc hV, ⟨by rfl, trivial⟩⟩
  · rename_i tk0 h1 F1 N1 a1
    simp only [Int.toNat_natCast] at F1 a1
    obtain ⟨hb, hx⟩ := and_zero a1
    subst hQ
    refine ⟨h1, _, _, _, rfl, F1, N1, Vs, n, t, by rw [bitWords_no hb]; exact hV, rfl, ?_, by rw [hx]; exact hf⟩
    rw [hx]
    exact ⟨by rfl, by rfl, trivial⟩
theorem pf_call {w : World} {A : Around} {E : Value → Shared → Prop} {s : Shared} {Q : Value → Shared → Prop} {mean : ExcName → Option Value} {mg mb : Str → Option Value} {f0 : Int} {t0 : Tok} {B : Nat}
    (X : (Mine.hd.heap_39 w.params).In s.heap) (T : Top VV LS mean mg mb s.heap) (hh : A.handled = none) (hroom : A.depth + 1 < recursionLimit)
    (hB : (restOf f0 32).natAbs < 2 ^ B) (hB2 : B ≤ 2000000)
    (hQ : ∀ h' tk t, (∀ b o, s.heap.get? b = some o → h'.get? b = some o) → Q (.str (Txt.join (Str.ofString ", ") (flagWords f0)) t) { s with heap := h', toks := tk }) :
    wpAny (model PP w) A (call (.ref 29) [.int f0 t0]) Q E s := by
  refine wpAny_call (call_pos_ret (by omega) (X 29 _ rfl) rfl T.nolimit (codeRec_of X (by with_unfolding_all rfl)) rfl (locs rfl) (fun h₁ F => ?_))
  have TR := topRead_of T
  have N := News.nil (h₀ := s.heap) (L := s.heap.objs.size) (h := h₁)
  change wpAny _ _ (execs (_ :: _) (envOf (Str.ofString "pretty_flags") _ s.heap.objs.size 29 _)) _ _ _
  walk_at "my steps"
  rename_i al h1 l1 h2 F2 N2
  have hhex := hex_len _ _ hB
  refine wpAny_mono (for_range (Q := fun g s' => g = .next ∧ PfEnd s.heap s.heap.objs.size s al (flagWords f0) s') (h₀ := s.heap) (L := s.heap.objs.size) (m₀ := mOf F2) (news₀ := newsOf N2) (a := 0) (b := 32) (n := 32) (PfJ al f0) hh (by decide) (by decide) ?_ ?_ ?_ (by intro I v; rfl) (by intro x; with_unfolding_all rfl) ?_ ?_) ?_ (fun _ _ x => x)
  · rintro i m news ⟨Vs, n, t, _, rfl, _⟩ p hp
    rw [List.mem_singleton.mp hp]
    exact .inl (fun f e => by cases e)
  · intro Q' hQ'
    walk_at "my steps"
    exact hQ' _ _ _ _ _ _ (by assumption) (by assumption) (by assumption)
  · refine ⟨[], 0, t0, ?_, rfl, ⟨?_, by rfl, trivial⟩, ?_⟩
    · exact .nil
    · rw [restOf_zero]; rfl
    · rw [restOf_zero]; exact Classical.em _
  · rintro I i t h tk m news o E' hi ⟨Vs, n, t1, hV, rfl, S, hf⟩ off F3 N3
    refine store_x F3 N3 (by rfl) (by rfl) (by rfl) (fun h4 tk4 F4 N4 => ?_)
    have S4 : Says (fun y => if y = Str.ofString "i" then some (Value.int ((0 : Int) + i) t) else m y) [(Str.ofString "flags", .int (restOf f0 i) t1), (Str.ofString "names", .ref al), (Str.ofString "i", .int ((0 : Int) + i) t)] :=
      ⟨S.1, S.2.1, by rfl, trivial⟩
    have hia : I ≠ al := Ne.symm (off _ (.head _))
    have Z := pf_turn (s0 := s) (A := (A.deeper (envOf (Str.ofString "pretty_flags") pfScope s.heap.objs.size 29 (Value.ref 28)))) (w := w) (E := E') X T hi ⟨h4, tk4, rfl⟩ hia S4 hf hV F4 N4
    refine wpAny_mono Z (fun g s' hg => ?_) (fun _ _ x => x)
    cases g with
    | next => exact hg
    | cont => exact hg
    | brk => exact ⟨rfl, hg⟩
    | ret v => exact hg.elim
  · rintro h tk m news E' ⟨Vs, n, t1, hV, rfl, S, hf⟩ F3 N3
    have F3 := fr_says F3 _ S
    dsimp only [kstB] at F3
    have hVl : Vs.length ≤ 32 := by rw [hV.len_eq]; exact bitWords_len _ _
    walk_at "my steps"
    refine append_x (pre := []) (post := []) (by assumption) (by assumption) (by intro p hp; cases hp) (by intro p hp; cases hp) (Nat.le_trans hVl (by decide)) (fun h2 n2 F2 N2 => ?_)
    walk_at "my steps"
    exact ⟨h2, _, _, _, _, rfl, F2, N2, by rw [flagWords_else hf]; exact Mine.StrsAre.snoc hV, ⟨by rfl, trivial⟩⟩
  · rintro g s' ⟨rfl, h', tk', m, Vs, n, rfl, F3, N3, hV, S⟩
    have F3 := fr_says F3 _ S
    dsimp only [kstB] at F3
    walk_at "my steps"
    obtain ⟨z1, z2⟩ := flagWords_sum hB
    refine join_list (N3.isList (.head _)) hV ?_ (fun t' k => hQ _ _ _ F3.keep)
    have z3 : (Str.ofString ", ").length = 2 := by decide +kernel
    rw [z3]
    omega
end Mine
end
section
open PySem PySem.W PyProof.Rows PySem.Builtin PySem.Builtin.Str PySem.StrLaws
set_option Elab.async false
set_option maxRecDepth 100000
set_option maxHeartbeats 4000000
namespace Mine.Spl
theorem offSplitJ : True := by
  w_top off
  exact True.intro
abbrev cb : Str := Str.ofString ", "
theorem cb_list : cb.cps.toList = [44, 32] := by decide +kernel
theorem cb_len : cb.length = 2 := by decide +kernel
/-- the signs of a join -/
def jl : List Str → List Nat
  | [] => []
  | [w] => w.cps.toList
  | w :: v :: r => w.cps.toList ++ 44 :: 32 :: jl (v :: r)
theorem join_jl : ∀ ws, (Txt.join cb ws).cps.toList = jl ws
  | [] => rfl
  | [w] => by
    unfold Txt.join
    rw [glued_eq_join]; rfl
  | w :: v :: r => by
    have ih := join_jl (v :: r)
    unfold Txt.join at ih ⊢
    rw [glued_eq_join] at ih ⊢
    show ((w.cps ++ cb.cps) ++ (Str.join cb (v :: r)).cps).toList = _
    rw [Array.toList_append, Array.toList_append, ih, cb_list]
    simp [jl]
def stepO (s sub : Str) (hi limit : Nat) (st : Array Nat × Nat) (i : Nat) : Array Nat × Nat :=
  if ((st.fst.size < limit ∧ st.snd ≤ i) ∧ i + sub.length ≤ hi) ∧ subAt s sub i = true then (st.fst.push i, i + sub.length) else st
theorem occ_fold (s sub : Str) (hi limit : Nat) : ∀ (l : List Nat) (st : Array Nat × Nat), (forIn l st (occBody s sub hi limit)).run = l.foldl (stepO s sub hi limit) st
  | [], st => rfl
  | a :: l, st => by
    rw [List.forIn_cons, List.foldl_cons]
    unfold occBody stepO
    split
    · exact occ_fold s sub hi limit l _
    · exact occ_fold s sub hi limit l _
theorem fold_none (s sub : Str) (hi limit : Nat) : ∀ (l : List Nat) (st : Array Nat × Nat), (∀ i ∈ l, ¬ (i + sub.length ≤ hi ∧ subAt s sub i = true)) → l.foldl (stepO s sub hi limit) st = st
  | [], _, _ => rfl
  | a :: l, st, h => by
    rw [List.foldl_cons]
    have : stepO s sub hi limit st a = st := by
      unfold stepO
      rw [if_neg]
      exact fun q => h a (.head _) ⟨q.1.2, q.2⟩
    rw [this]
    exact fold_none s sub hi limit l st fun i hi => h i (.tail _ hi)
def seams : Nat → List Str → List Nat
  | _, [] => []
  | _, [_] => []
  | a, w :: v :: r => (a + w.length) :: seams (a + w.length + 2) (v :: r)
theorem at_char {t : Str} {i : Nat} (h : subAt t cb i = true) : t.cps.toList[i]? = some 44 := by
  rw [subAt_eq, cb_list, cb_len, beq_iff_eq] at h
  have e : t.cps.toList[i]? = (t.cps.toList.drop i)[0]? := by rw [List.getElem?_drop]; rfl
  rw [e]
  cases hd : t.cps.toList.drop i with
  | nil => rw [hd] at h; simp at h
  | cons x r => rw [hd] at h; simp at h; simp [h.1]
theorem len_list (w : Str) : w.length = w.cps.toList.length := by simp [Str.length]
theorem occ_seams {t : Str} : ∀ (ws : List Str) (pre : List Nat) (found : Array Nat) (free limit : Nat), ws ≠ [] → (∀ w ∈ ws, 44 ∉ w.cps.toList) → t.cps.toList = pre ++ jl ws → free ≤ pre.length → found.size + ws.length ≤ limit →
    ((List.range' pre.length (t.length + 1 - pre.length)).foldl (stepO t cb t.length limit) (found, free)).fst.toList = found.toList ++ seams pre.length ws
  | [], _, _, _, _, h, _, _, _, _ => absurd rfl h
  | [w], pre, found, free, limit, _, hw, ht, hf, hl => by
    rw [fold_none]
    · simp [seams]
    · intro i hi hq
      have hc := at_char hq.2
      have hi' : pre.length ≤ i := (List.mem_range'_1.mp hi).1
      rw [ht, List.getElem?_append_right hi'] at hc
      exact hw w (.head _) (List.mem_of_getElem? hc)
  | w :: v :: r, pre, found, free, limit, _, hw, ht, hf, hl => by
    have ht' : t.cps.toList = (pre ++ w.cps.toList ++ [44, 32]) ++ jl (v :: r) := by rw [ht]; simp [jl]
    have hn : t.length = pre.length + w.length + 2 + (jl (v :: r)).length := by rw [len_list, ht']; simp [len_list]; omega
    have hr : List.range' pre.length (t.length + 1 - pre.length) = List.range' pre.length w.length ++ (pre.length + w.length) :: (pre.length + w.length + 1) :: List.range' (pre.length + w.length + 2) (t.length + 1 - (pre.length + w.length + 2)) := by
      rw [show t.length + 1 - pre.length = w.length + (2 + (t.length + 1 - (pre.length + w.length + 2))) by omega, ← List.range'_append_1, ← List.range'_append_1]
      rfl
    have hnone : ∀ i ∈ List.range' pre.length w.length, ¬ (i + cb.length ≤ t.length ∧ subAt t cb i = true) := by
      intro i hi hq
      have hc := at_char hq.2
      have hi' := List.mem_range'_1.mp hi
      rw [ht, List.getElem?_append_right hi'.1] at hc
      simp only [jl] at hc
      rw [List.getElem?_append_left (by rw [← len_list]; omega)] at hc
      exact hw w (.head _) (List.mem_of_getElem? hc)
    rw [hr, List.foldl_append, List.foldl_cons, List.foldl_cons, fold_none t cb t.length limit (List.range' pre.length w.length) (found, free) hnone]
    have s1 : stepO t cb t.length limit (found, free) (pre.length + w.length) = (found.push (pre.length + w.length), pre.length + w.length + 2) := by
      unfold stepO
      rw [if_pos, cb_len]
      refine ⟨⟨⟨?_, ?_⟩, ?_⟩, ?_⟩
      · simp only [List.length_cons] at hl; show found.size < limit; omega
      · show free ≤ _; omega
      · rw [cb_len]; omega
      · rw [subAt_eq, cb_list, cb_len, beq_iff_eq, ht', List.append_assoc, List.append_assoc]
        rw [show pre.length + w.length = (pre ++ w.cps.toList).length by simp [len_list], ← List.append_assoc, List.drop_left]
        rfl
    have s2 : stepO t cb t.length limit (found.push (pre.length + w.length), pre.length + w.length + 2) (pre.length + w.length + 1) = (found.push (pre.length + w.length), pre.length + w.length + 2) := by
      unfold stepO
      rw [if_neg]
      intro q
      have := q.1.1.2
      dsimp only at this
      omega
    rw [s1, s2]
    have e : pre.length + w.length + 2 = (pre ++ w.cps.toList ++ [44, 32]).length := by simp [len_list]; omega
    have ih := occ_seams (t := t) (v :: r) (pre ++ w.cps.toList ++ [44, 32]) (found.push (pre.length + w.length)) (pre.length + w.length + 2) limit (by simp) (fun x hx => hw x (.tail _ hx)) ht' (by rw [e]; exact Nat.le_refl _) (by simp only [Array.size_push, List.length_cons] at hl ⊢; omega)
    rw [← e] at ih
    rw [ih]
    simp [seams]
theorem sub_list (t : Str) (i j : Nat) : (strSub t i j).cps.toList = (t.cps.toList.drop i).take (j - i) := by
  simp [strSub]
theorem str_ext {a b : Str} (h : a.cps.toList = b.cps.toList) : a = b := by
  cases a; cases b
  simp at h
  rw [h]
theorem parts_seams {t : Str} : ∀ (ws : List Str) (pre : List Nat), ws ≠ [] → t.cps.toList = pre ++ jl ws → partsFrom t 2 pre.length (seams pre.length ws) = ws
  | [], _, h, _ => absurd rfl h
  | [w], pre, _, ht => by
    show [strSub t pre.length t.length] = [w]
    congr 1
    apply str_ext
    rw [sub_list, ht, List.drop_left, len_list, ht, List.take_of_length_le (by simp)]
    rfl
  | w :: v :: r, pre, _, ht => by
    have ht' : t.cps.toList = (pre ++ w.cps.toList ++ [44, 32]) ++ jl (v :: r) := by rw [ht]; simp [jl]
    have e : pre.length + w.length + 2 = (pre ++ w.cps.toList ++ [44, 32]).length := by simp [len_list]; omega
    show strSub t pre.length (pre.length + w.length) :: partsFrom t 2 (pre.length + w.length + 2) (seams (pre.length + w.length + 2) (v :: r)) = _
    have ih := parts_seams (t := t) (v :: r) (pre ++ w.cps.toList ++ [44, 32]) (by simp) ht'
    rw [← e] at ih
    rw [ih]
    congr 1
    apply str_ext
    rw [sub_list, ht, List.drop_left, Nat.add_sub_cancel_left]
    simp [jl, len_list]
theorem kind_cb (t : Str) : decide (Str.strKind t < Str.strKind cb) = false := by
  have : Str.strKind cb = 1 := by decide +kernel
  rw [this]
  unfold Str.strKind
  split
  · rfl
  · split <;> rfl
/-- a join of words without commas, split again -/
theorem split_join {ws : List Str} (h0 : ws ≠ []) (hw : ∀ w ∈ ws, 44 ∉ w.cps.toList) : Txt.split (Txt.join cb ws) cb = ws := by
  have ht := join_jl ws
  generalize Txt.join cb ws = t at ht
  have ho : occurrences t cb 0 t.length (t.length + 1) = seams 0 ws := by
    rw [occ_eq, occ_fold]
    have hsz : ∀ ws : List Str, ws.length ≤ (jl ws).length + 1 := by
      intro ws
      induction ws with
      | nil => simp
      | cons w r ih =>
        cases r with
        | nil => simp
        | cons v r => simp only [jl, List.length_append, List.length_cons] at ih ⊢; omega
    have := occ_seams (t := t) ws [] #[] 0 (t.length + 1) h0 hw ht (Nat.le_refl _) (by have := hsz ws; rw [len_list, ht]; simpa using this)
    simpa using this
  have hp := parts_seams (t := t) ws [] h0 ht
  have hp' : partsBetween t (seams 0 ws) 2 = ws := by rw [partsBetween_eq]; exact hp
  unfold Txt.split
  rw [kind_cb, Bool.or_false, cb_len, ho]
  by_cases hs : t.length < 2
  · rw [if_pos (by simpa using hs)]
    match ws, h0 with
    | [w], _ => congr 1; exact str_ext ht
    | w :: v :: r, _ =>
      exfalso
      rw [len_list, ht] at hs
      simp only [jl, List.length_append, List.length_cons] at hs
      omega
  · rw [if_neg (by simpa using hs)]
    split
    · match ws, h0 with
      | [w], _ => congr 1; exact str_ext ht
      | w :: v :: r, _ => rename_i he; simp [seams] at he
    · exact hp'
end Mine.Spl
end
section
open PySem PySem.W PyProof.Rows PySem.Spec
set_option Elab.async false
set_option maxRecDepth 100000
set_option maxHeartbeats 4000000
namespace Mine
theorem offPlainB : True := by
  w_top off
  exact True.intro
abbrev W := List Nat
def toS (l : W) : Str := ⟨l.toArray⟩
def ltW : W → W → Bool := ltCps
def skipL (x : W) : List W → List W
  | [] => []
  | y :: l => if y == x then skipL x l else y :: l
def sldL : Nat → List W → List W → List W × List W
  | 0, xs, ys => (xs, ys)
  | _ + 1, [], ys => ([], ys)
  | _ + 1, x :: xs, [] => (x :: xs, [])
  | f + 1, x :: xs, y :: ys =>
    if ltW x y then ((x :: (sldL f (skipL x xs) (y :: ys)).1), (sldL f (skipL x xs) (y :: ys)).2)
    else if ltW y x then ((sldL f (x :: xs) (skipL y ys)).1, y :: (sldL f (x :: xs) (skipL y ys)).2)
    else sldL f (skipL x xs) (skipL y ys)
theorem toS_beq (x y : W) : (toS x == toS y) = (x == y) := by
  rw [Bool.eq_iff_iff, beq_iff_eq, beq_iff_eq]
  constructor
  · intro h
    have := congrArg (fun s : Str => s.cps.toList) h
    simpa [toS] using this
  · intro h; rw [h]
theorem slt_toS (x y : W) : slt (toS x) (toS y) = ltW x y := by
  unfold slt ltW
  rw [ltCps_eq]
  rfl
theorem skip_toS (x : W) : ∀ l : List W, skip (toS x) (l.map toS) = (skipL x l).map toS
  | [] => rfl
  | y :: l => by
    unfold skip skipL
    rw [List.map_cons, List.dropWhile_cons, toS_beq]
    split
    · exact skip_toS x l
    · rfl
theorem skipL_le (x : W) : ∀ l : List W, (skipL x l).length ≤ l.length
  | [] => Nat.le_refl _
  | y :: l => by
    unfold skipL
    split
    · exact Nat.le_succ_of_le (skipL_le x l)
    · exact Nat.le_refl _
theorem sld_toS : ∀ (f : Nat) (xs ys : List W), xs.length + ys.length < f → sld (xs.map toS) (ys.map toS) = ((sldL f xs ys).1.map toS, (sldL f xs ys).2.map toS)
  | 0, _, _, h => absurd h (Nat.not_lt_zero _)
  | f + 1, [], ys, _ => by rw [List.map_nil, sld_nil_left]; rfl
  | f + 1, x :: xs, [], _ => by rw [List.map_nil, sld_nil_right]; rfl
  | f + 1, x :: xs, y :: ys, h => by
    simp only [List.length_cons] at h
    have h1 := skipL_le x xs
    have h2 := skipL_le y ys
    rw [List.map_cons, List.map_cons, sld, slt_toS, slt_toS, skip_toS, skip_toS]
    unfold sldL
    split
    · rw [← List.map_cons, sld_toS f (skipL x xs) (y :: ys) (by simp only [List.length_cons]; omega)]; rfl
    · split
      · rw [← List.map_cons, sld_toS f (x :: xs) (skipL y ys) (by simp only [List.length_cons]; omega)]; rfl
      · rw [sld_toS f (skipL x xs) (skipL y ys) (by omega)]
/-- the four words of a place -/
def names4 (p : Nat) : List Str := (lawWords.drop p).take 4
def bitN (n k : Nat) : Bool := n / 2 ^ k % 2 == 1
def dueB (p n : Nat) : List Str := ((List.range 4).filter (bitN n)).map fun k => (names4 p).getD k (Str.ofString "")
def tailW (share : Int) : List Str := if share ≠ 0 then [baseText "0x" 16 share ++ Str.ofString "00000000"] else []
def due (p n : Nat) (share : Int) : List Str := if dueB p n ++ tailW share = [] then [Str.ofString "0x0"] else dueB p n ++ tailW share
theorem bits_atN : ∀ n : Nat, n < 16 → ∀ p : Nat, p < 29 → (List.range 32).filter (fun j => n * 2 ^ p / 2 ^ j % 2 == 1) = ((List.range 4).filter (bitN n)).map (p + ·) := by decide +kernel
theorem bitOf_nat (f j : Nat) : bitOf (f : Int) j = (f / 2 ^ j % 2 == 1) := by
  unfold bitOf
  have e : ((f : Int) / 2 ^ j % 2) = ((f / 2 ^ j % 2 : Nat) : Int) := by simp
  rw [e, Bool.eq_iff_iff, decide_eq_true_iff, beq_iff_eq]
  omega
theorem bits_at (n : Nat) (hn : n < 16) (p : Nat) (hp : p < 29) : (List.range 32).filter (bitOf ((n : Int) * 2 ^ p)) = ((List.range 4).filter (bitN n)).map (p + ·) := by
  rw [← bits_atN n hn p hp]
  refine List.filter_congr fun j _ => ?_
  have e : ((n : Int) * 2 ^ p) = ((n * 2 ^ p : Nat) : Int) := by simp
  rw [e, bitOf_nat]
theorem bitOf_share (z share : Int) {j : Nat} (hj : j < 32) : bitOf (z + share * 2 ^ 32) j = bitOf z j := by
  unfold bitOf
  have e : (2 : Int) ^ 32 = 2 ^ j * 2 ^ (32 - j) := by rw [← Int.pow_add, show j + (32 - j) = 32 by omega]
  have e2 : (2 : Int) ^ (32 - j) = 2 * 2 ^ (31 - j) := by rw [show 32 - j = (31 - j) + 1 by omega, Int.pow_succ, Int.mul_comm]
  have hp : (0 : Int) < 2 ^ j := Int.pow_pos (by decide)
  rw [e, show share * (2 ^ j * 2 ^ (32 - j)) = share * 2 ^ (32 - j) * 2 ^ j by rw [Int.mul_comm (2 ^ j) (2 ^ (32 - j)), Int.mul_assoc], Int.add_mul_ediv_right _ _ (Int.ne_of_gt hp), e2,
    show share * (2 * 2 ^ (31 - j)) = 2 * (share * 2 ^ (31 - j)) by rw [← Int.mul_assoc, Int.mul_comm share 2, Int.mul_assoc], Int.add_mul_emod_self_left]
theorem rest_share (n p : Nat) (share : Int) (hn : n < 16) (hp : p < 29) : restOf ((n : Int) * 2 ^ p + share * 2 ^ 32) 32 = share * 2 ^ 32 := by
  unfold restOf
  have h1 : (0 : Int) ≤ (n : Int) * 2 ^ p := Int.mul_nonneg (Int.natCast_nonneg _) (Int.le_of_lt (Int.pow_pos (by decide)))
  have h2 : (n : Int) * 2 ^ p < 2 ^ 32 := by
    have a1 : n * 2 ^ p ≤ 15 * 2 ^ 28 := Nat.mul_le_mul (by omega) (Nat.pow_le_pow_right (by decide) (by omega))
    have a2 : ((n * 2 ^ p : Nat) : Int) ≤ 15 * 2 ^ 28 := by exact_mod_cast a1
    have a3 : ((n * 2 ^ p : Nat) : Int) = (n : Int) * 2 ^ p := by simp
    omega
  rw [Int.add_mul_ediv_right _ _ (by decide), Int.ediv_eq_zero_of_lt h1 h2, Int.zero_add]
theorem flag_zero (n p : Nat) (share : Int) (hn : n < 16) (hp : p < 29) : ((n : Int) * 2 ^ p + share * 2 ^ 32 = 0) ↔ (share = 0 ∧ n = 0) := by
  have h1 : (0 : Int) ≤ (n : Int) * 2 ^ p := Int.mul_nonneg (Int.natCast_nonneg _) (Int.le_of_lt (Int.pow_pos (by decide)))
  constructor
  · intro h
    have r := rest_share n p share hn hp
    rw [h] at r
    have hs : share = 0 := by
      unfold restOf at r
      omega
    refine ⟨hs, ?_⟩
    rw [hs] at h
    have h3 : (n : Int) * 2 ^ p = 0 := by simpa using h
    have := (Int.mul_eq_zero.mp h3).resolve_right (Int.ne_of_gt (Int.pow_pos (by decide)))
    exact_mod_cast this
  · rintro ⟨rfl, rfl⟩; simp
theorem names4_getD (p k : Nat) (hk : k < 4) (hp : p < 29) : (names4 p).getD k (Str.ofString "") = lawWords.getD (p + k) (Str.ofString "") := by
  unfold names4
  rw [List.getD_eq_getElem?_getD, List.getD_eq_getElem?_getD, List.getElem?_take, if_pos hk, List.getElem?_drop]
theorem bitWords_due (n p : Nat) (share : Int) (hn : n < 16) (hp : p < 29) : bitWords ((n : Int) * 2 ^ p + share * 2 ^ 32) 32 = dueB p n := by
  unfold bitWords dueB
  rw [List.filter_congr (fun j hj => bitOf_share _ share (by simpa using hj)), bits_at n hn p hp, List.map_map]
  apply List.map_congr_left
  intro k hk
  have : k < 4 := by simpa using (List.mem_filter.mp hk).1
  exact (names4_getD p k this hp).symm
theorem dueB_nil : ∀ n : Nat, n < 16 → ((List.range 4).filter (bitN n) = [] ↔ n = 0) := by decide +kernel
theorem flagWords_due (n p : Nat) (share : Int) (hn : n < 16) (hp : p < 29) : flagWords ((n : Int) * 2 ^ p + share * 2 ^ 32) = due p n share := by
  have hz : (restOf ((n : Int) * 2 ^ p + share * 2 ^ 32) 32 ≠ 0) ↔ share ≠ 0 := by rw [rest_share n p share hn hp]; omega
  have hd : dueB p n = [] ↔ n = 0 := by unfold dueB; rw [List.map_eq_nil_iff]; exact dueB_nil n hn
  have h00 : baseText "0x" 16 0 = Str.ofString "0x0" := by decide +kernel
  unfold flagWords due
  rw [bitWords_due n p share hn hp]
  by_cases hs : share = 0
  · have ht : tailW share = [] := if_neg (fun q => q hs)
    rw [ht, if_neg (fun q => hz.mp q hs)]
    by_cases h0 : n = 0
    · rw [if_pos ((flag_zero n p share hn hp).mpr ⟨hs, h0⟩), List.append_nil, if_pos (hd.mpr h0), hd.mpr h0, h00]; rfl
    · rw [if_neg (fun q => h0 ((flag_zero n p share hn hp).mp q).2), List.append_nil, if_neg (fun q => h0 (hd.mp q))]
  · have ht : tailW share = [baseText "0x" 16 share ++ Str.ofString "00000000"] := if_pos hs
    rw [ht, if_pos (hz.mpr hs), if_neg (by simp), rest_share n p share hn hp, hex_shift share hs]
/-- a word that is told of a share is no word of a flag -/
def endsO (w : Str) : Bool := decide (w.length ≤ 10) || !(w.cps.toList.getLast? == some 48)
theorem lawWords_ends : lawWords.all endsO = true := by decide +kernel
theorem share_word (share : Int) : baseText "0x" 16 share ++ Str.ofString "00000000" ∉ lawWords := by
  intro h
  have := List.all_eq_true.mp lawWords_ends _ h
  unfold endsO at this
  have hl := (fact_hex share).1
  have e : (baseText "0x" 16 share ++ Str.ofString "00000000").cps.toList = (baseText "0x" 16 share).cps.toList ++ [48, 48, 48, 48, 48, 48, 48, 48] := by
    show ((baseText "0x" 16 share).cps ++ (Str.ofString "00000000").cps).toList = _
    rw [Array.toList_append, show (Str.ofString "00000000").cps.toList = [48, 48, 48, 48, 48, 48, 48, 48] by decide +kernel]
  have e2 : (baseText "0x" 16 share ++ Str.ofString "00000000").length = (baseText "0x" 16 share).length + 8 := by
    rw [Spl.len_list, e, List.length_append, ← Spl.len_list]; rfl
  rw [e2, e, List.getLast?_append] at this
  simp at this
  omega
theorem zero_word : Str.ofString "0x0" ∉ lawWords := by decide +kernel
theorem lawWords_nodup : lawWords.Nodup := by decide +kernel
theorem names4_sub (p : Nat) : ∀ w ∈ names4 p, w ∈ lawWords := fun w hw => List.mem_of_mem_drop (List.mem_of_mem_take hw)
theorem names4_len (p : Nat) (hp : p < 29) : (names4 p).length = 4 := by
  unfold names4
  rw [List.length_take, List.length_drop, show lawWords.length = 32 by decide +kernel]
  omega
theorem dueB_mem {p n : Nat} (hp : p < 29) : ∀ w ∈ dueB p n, w ∈ names4 p := fun w hw => by
  obtain ⟨k, hk, rfl⟩ := List.mem_map.mp hw
  have : k < (names4 p).length := by rw [names4_len p hp]; simpa using (List.mem_filter.mp hk).1
  rw [List.getD_eq_getElem?_getD, List.getElem?_eq_getElem this]
  exact List.getElem_mem this
theorem due_filter (p n : Nat) (share : Int) (hp : p < 29) : (due p n share).filter (fun w => decide (w ∈ names4 p)) = dueB p n := by
  have h1 : (dueB p n).filter (fun w => decide (w ∈ names4 p)) = dueB p n := List.filter_eq_self.mpr fun w hw => by simpa using dueB_mem hp w hw
  have h2 : (tailW share).filter (fun w => decide (w ∈ names4 p)) = [] := by
    unfold tailW
    split
    · rw [List.filter_eq_nil_iff]
      intro w hw
      rw [List.mem_singleton.mp hw]
      simpa using fun q => share_word share (names4_sub p _ q)
    · rfl
  unfold due
  split
  · rename_i h
    have h3 := (List.append_eq_nil_iff.mp h).1
    rw [h3, List.filter_eq_nil_iff]
    intro w hw
    rw [List.mem_singleton.mp hw]
    simpa using fun q => zero_word (names4_sub p _ q)
  · rw [List.filter_append, h1, h2, List.append_nil]
/-- no word holds a comma -/
def noComma (w : Str) : Bool := !(w.cps.toList.contains 44)
theorem lawWords_comma : lawWords.all noComma = true := by decide +kernel
theorem digit_comma : ∀ d : Nat, d < 16 → (Nat.digitChar d).toNat ≠ 44 := by decide +kernel
theorem digits_comma (n : Nat) : ∀ c ∈ Nat.toDigits 16 n, c.toNat ≠ 44 := by
  induction n using Nat.strongRecOn with
  | ind n ih =>
    intro c hc
    rw [Nat.toDigits_eq_if (by decide)] at hc
    split at hc
    · rw [List.mem_singleton.mp hc]
      exact digit_comma n (by assumption)
    · rcases List.mem_append.mp hc with hc | hc
      · exact ih (n / 16) (by omega) c hc
      · rw [List.mem_singleton.mp hc]
        exact digit_comma _ (by omega)
theorem hex_comma (z : Int) : 44 ∉ (baseText "0x" 16 z).cps.toList := by
  unfold baseText
  show 44 ∉ (((Str.ofString (if z < 0 then "-" else "")).cps ++ (Str.ofString "0x").cps) ++ (Str.ofString (String.ofList (Nat.toDigits 16 z.natAbs))).cps).toList
  rw [Array.toList_append, Array.toList_append, List.mem_append, List.mem_append, not_or, not_or]
  refine ⟨⟨?_, by decide +kernel⟩, ?_⟩
  · split <;> decide +kernel
  · rw [Str.ofString_eq_toList, String.toList_ofList]
    intro h
    obtain ⟨c, hc, e⟩ := List.mem_map.mp (by simpa using h)
    exact digits_comma _ c hc e
theorem due_comma (p n : Nat) (share : Int) (hp : p < 29) : ∀ w ∈ due p n share, 44 ∉ w.cps.toList := by
  intro w hw
  have law : ∀ w ∈ lawWords, 44 ∉ w.cps.toList := fun w hw => by
    have := List.all_eq_true.mp lawWords_comma w hw
    simpa [noComma] using this
  have hd : w ∈ dueB p n ++ tailW share ∨ w = Str.ofString "0x0" := by
    unfold due at hw
    split at hw
    · exact .inr (List.mem_singleton.mp hw)
    · exact .inl hw
  rcases hd with hd | rfl
  · rcases List.mem_append.mp hd with hd | hd
    · exact law w (names4_sub p w (dueB_mem hp w hd))
    · unfold tailW at hd
      split at hd
      · rw [List.mem_singleton.mp hd]
        show 44 ∉ ((baseText "0x" 16 share).cps ++ (Str.ofString "00000000").cps).toList
        rw [Array.toList_append, List.mem_append, not_or]
        exact ⟨hex_comma share, by decide +kernel⟩
      · cases hd
  · decide +kernel
theorem due_ne (p n : Nat) (share : Int) : due p n share ≠ [] := by
  unfold due
  split
  · simp
  · assumption
theorem due_split (p n : Nat) (share : Int) (hp : p < 29) : Txt.split (Txt.join (Str.ofString ", ") (due p n share)) (Str.ofString ", ") = due p n share := Spl.split_join (due_ne p n share) (due_comma p n share hp)
end Mine
end
section
open PySem PySem.W PyProof.Rows PySem.Spec
set_option Elab.async false
set_option maxRecDepth 100000
set_option maxHeartbeats 4000000
namespace Mine
theorem offPlainC : True := by
  w_top off
  exact True.intro
def insW (x : W) : List W → List W
  | [] => [x]
  | y :: l => if ltW y x then y :: insW x l else x :: y :: l
def sortW (l : List W) : List W := l.foldr insW []
def wl (p n : Nat) : List W := sortW ((dueB p n).map fun w => w.cps.toList)
def dupW (l : List W) : List W := l.flatMap fun v => [v, v]
def wset (p n : Nat) : List Str := (wl p n).map toS
theorem ltW_eq (a b : W) : ltW a b = decide (a < b) := ltCps_eq a b
theorem leW_trans {a b c : W} (h1 : ltW b a = false) (h2 : ltW c b = false) : ltW c a = false := by
  rw [ltW_eq, decide_eq_false_iff_not, List.not_lt] at *
  exact List.le_trans h1 h2
theorem leW_anti {a b : W} (h1 : ltW b a = false) (h2 : ltW a b = false) : a = b := by
  rw [ltW_eq, decide_eq_false_iff_not, List.not_lt] at *
  exact List.le_antisymm h1 h2
theorem rising_pw : ∀ (ss : List Str) (p : Str), risingS p ss = true → (p :: ss).Pairwise (fun a b => ltW b.cps.toList a.cps.toList = false)
  | [], p, _ => List.pairwise_singleton _ _
  | x :: r, p, h => by
    simp only [risingS, Bool.and_eq_true, Bool.not_eq_true'] at h
    have ih := rising_pw r x h.2
    rw [List.pairwise_cons]
    refine ⟨fun y hy => ?_, ih⟩
    rcases List.mem_cons.mp hy with rfl | hy
    · exact h.1
    · exact leW_trans h.1 ((List.pairwise_cons.mp ih).1 y hy)
theorem sorted_pw {ss : List Str} (h : sortedS ss = true) : ss.Pairwise (fun a b => ltW b.cps.toList a.cps.toList = false) := by
  cases ss with
  | nil => exact .nil
  | cons x r => exact rising_pw r x h
theorem insW_perm (x : W) : ∀ l, (insW x l).Perm (x :: l)
  | [] => .refl _
  | y :: l => by
    unfold insW
    split
    · exact ((insW_perm x l).cons y).trans (.swap x y l)
    · exact .refl _
theorem sortW_perm : ∀ l, (sortW l).Perm l
  | [] => .refl _
  | x :: l => (insW_perm x (sortW l)).trans ((sortW_perm l).cons x)
theorem insW_pw (x : W) : ∀ l : List W, l.Pairwise (fun a b => ltW b a = false) → (insW x l).Pairwise (fun a b => ltW b a = false)
  | [], _ => List.pairwise_singleton _ _
  | y :: l, h => by
    have h' := List.pairwise_cons.mp h
    unfold insW
    split
    · rename_i hy
      rw [List.pairwise_cons]
      refine ⟨fun z hz => ?_, insW_pw x l h'.2⟩
      rcases List.mem_cons.mp ((insW_perm x l).mem_iff.mp hz) with rfl | hz
      · rw [ltW_eq] at hy ⊢
        exact decide_eq_false (List.not_lt.mpr (List.le_of_lt (of_decide_eq_true hy)))
      · exact h'.1 z hz
    · rename_i hy
      have hy : ltW y x = false := by simpa using hy
      rw [List.pairwise_cons]
      refine ⟨fun z hz => ?_, h⟩
      rcases List.mem_cons.mp hz with rfl | hz
      · exact hy
      · exact leW_trans hy (h'.1 z hz)
theorem sortW_pw : ∀ l : List W, (sortW l).Pairwise (fun a b => ltW b a = false)
  | [] => .nil
  | x :: l => insW_pw x _ (sortW_pw l)
theorem toS_cps (w : Str) : toS w.cps.toList = w := by cases w; simp [toS]
/-- the order of texts leaves no choice -/
theorem wset_of {p n : Nat} {ss : List Str} (hp : ss.Perm (dueB p n)) (hs : sortedS ss = true) : ss = wset p n := by
  have e : ss.map (fun w => w.cps.toList) = wl p n := by
    refine List.Perm.eq_of_pairwise (le := fun a b => ltW b a = false) (fun a b _ _ h1 h2 => leW_anti h1 h2) ?_ (sortW_pw _) ((hp.map _).trans (sortW_perm _).symm)
    exact List.pairwise_map.mpr (sorted_pw hs)
  unfold wset
  rw [← e, List.map_map]
  conv => lhs; rw [← List.map_id ss]
  exact List.map_congr_left fun w _ => (toS_cps w).symm
end Mine
end
section
open PySem PySem.W PyProof.Rows PySem.Spec
set_option Elab.async false
set_option maxRecDepth 100000
set_option maxHeartbeats 4000000
namespace Mine
theorem offPlainD : True := by
  w_top off
  exact True.intro
def cpA (p : Nat) : Bool := (List.range 16).all fun a => (List.range 16).all fun b => decide (sldL 9 (wl p a) (wl p b) = (wl p (a &&& (15 ^^^ b)), wl p (b &&& (15 ^^^ a)))) && (decide (a = b) || !decide (wl p a = wl p b))
def cpB (p : Nat) : Bool := (List.range 16).all fun r => decide (sldL 20 (dupW (wl p 15) ++ [[126]]) (dupW (wl p r) ++ [[126]]) = (wl p (15 - r), [])) && decide (sldL 20 (dupW (wl p r) ++ [[126]]) (dupW (wl p 15) ++ [[126]]) = ([], wl p (15 - r)))
def cp (p : Nat) : Bool := cpA p && cpB p
theorem cp0 : cp 0 = true := by decide +kernel
theorem cp1 : cp 1 = true := by decide +kernel
theorem cp2 : cp 2 = true := by decide +kernel
theorem cp3 : cp 3 = true := by decide +kernel
theorem cp4 : cp 4 = true := by decide +kernel
theorem cp5 : cp 5 = true := by decide +kernel
theorem cp6 : cp 6 = true := by decide +kernel
theorem cp7 : cp 7 = true := by decide +kernel
theorem cp8 : cp 8 = true := by decide +kernel
theorem cp9 : cp 9 = true := by decide +kernel
theorem cp10 : cp 10 = true := by decide +kernel
theorem cp11 : cp 11 = true := by decide +kernel
theorem cp12 : cp 12 = true := by decide +kernel
theorem cp13 : cp 13 = true := by decide +kernel
theorem cp14 : cp 14 = true := by decide +kernel
theorem cp15 : cp 15 = true := by decide +kernel
theorem cp16 : cp 16 = true := by decide +kernel
theorem cp17 : cp 17 = true := by decide +kernel
theorem cp18 : cp 18 = true := by decide +kernel
theorem cp19 : cp 19 = true := by decide +kernel
theorem cp20 : cp 20 = true := by decide +kernel
theorem cp21 : cp 21 = true := by decide +kernel
theorem cp22 : cp 22 = true := by decide +kernel
theorem cp23 : cp 23 = true := by decide +kernel
theorem cp24 : cp 24 = true := by decide +kernel
theorem cp25 : cp 25 = true := by decide +kernel
theorem cp26 : cp 26 = true := by decide +kernel
theorem cp27 : cp 27 = true := by decide +kernel
theorem cp28 : cp 28 = true := by decide +kernel
theorem cp_all : ∀ p : Nat, p < 29 → cp p = true
  | 0, _ => cp0
  | 1, _ => cp1
  | 2, _ => cp2
  | 3, _ => cp3
  | 4, _ => cp4
  | 5, _ => cp5
  | 6, _ => cp6
  | 7, _ => cp7
  | 8, _ => cp8
  | 9, _ => cp9
  | 10, _ => cp10
  | 11, _ => cp11
  | 12, _ => cp12
  | 13, _ => cp13
  | 14, _ => cp14
  | 15, _ => cp15
  | 16, _ => cp16
  | 17, _ => cp17
  | 18, _ => cp18
  | 19, _ => cp19
  | 20, _ => cp20
  | 21, _ => cp21
  | 22, _ => cp22
  | 23, _ => cp23
  | 24, _ => cp24
  | 25, _ => cp25
  | 26, _ => cp26
  | 27, _ => cp27
  | 28, _ => cp28
  | n + 29, h => absurd h (by omega)
theorem all_range {n : Nat} {P : Nat → Bool} (h : (List.range n).all P = true) {k : Nat} (hk : k < n) : P k = true := List.all_eq_true.mp h k (List.mem_range.mpr hk)
theorem cp_ab {p a b : Nat} (hp : p < 29) (ha : a < 16) (hb : b < 16) : sldL 9 (wl p a) (wl p b) = (wl p (a &&& (15 ^^^ b)), wl p (b &&& (15 ^^^ a))) ∧ (decide (a = b) || !decide (wl p a = wl p b)) = true := by
  have h := cp_all p hp
  unfold cp at h
  rw [Bool.and_eq_true] at h
  have h := all_range (all_range h.1 ha) hb
  rw [Bool.and_eq_true] at h
  exact ⟨of_decide_eq_true h.1, h.2⟩
theorem f1 {p a b : Nat} (hp : p < 29) (ha : a < 16) (hb : b < 16) : sldL 9 (wl p a) (wl p b) = (wl p (a &&& (15 ^^^ b)), wl p (b &&& (15 ^^^ a))) := (cp_ab hp ha hb).1
theorem f2 {p r : Nat} (hp : p < 29) (hr : r < 16) : sldL 20 (dupW (wl p 15) ++ [[126]]) (dupW (wl p r) ++ [[126]]) = (wl p (15 - r), []) ∧ sldL 20 (dupW (wl p r) ++ [[126]]) (dupW (wl p 15) ++ [[126]]) = ([], wl p (15 - r)) := by
  have h := cp_all p hp
  unfold cp at h
  rw [Bool.and_eq_true] at h
  have h := all_range h.2 hr
  rw [Bool.and_eq_true] at h
  exact ⟨of_decide_eq_true h.1, of_decide_eq_true h.2⟩
theorem f3 {p a b : Nat} (hp : p < 29) (ha : a < 16) (hb : b < 16) (h : wl p a = wl p b) : a = b := by
  have := (cp_ab hp ha hb).2
  simpa [h] using this
theorem wl_len (p n : Nat) : (wl p n).length ≤ 4 := by
  unfold wl
  rw [(sortW_perm _).length_eq, List.length_map]
  unfold dueB
  rw [List.length_map]
  exact Nat.le_trans (List.length_filter_le _ _) (by simp)
theorem wset_len (p n : Nat) : (wset p n).length ≤ 4 := by unfold wset; rw [List.length_map]; exact wl_len p n
theorem sld_sets {p a b : Nat} (hp : p < 29) (ha : a < 16) (hb : b < 16) : sld (wset p a) (wset p b) = (wset p (a &&& (15 ^^^ b)), wset p (b &&& (15 ^^^ a))) := by
  unfold wset
  rw [sld_toS 9 _ _ (by have := wl_len p a; have := wl_len p b; omega), f1 hp ha hb]
def dupS (l : List Str) : List Str := (l.flatMap fun v => [v, v]) ++ [Str.ofString "~"]
theorem dupS_toS (l : List W) : dupS (l.map toS) = (dupW l ++ [[126]]).map toS := by
  unfold dupS dupW
  rw [List.map_append, List.flatMap_map, List.map_flatMap]
  congr 1
theorem dupW_len (l : List W) : (dupW l).length = 2 * l.length := by
  induction l with
  | nil => rfl
  | cons a l ih => simp only [dupW, List.flatMap_cons, List.length_append, List.length_cons, List.length_nil] at ih ⊢; omega
theorem sld_twice {p r : Nat} (hp : p < 29) (hr : r < 16) : sld (dupS (wset p 15)) (dupS (wset p r)) = (wset p (15 - r), []) ∧ sld (dupS (wset p r)) (dupS (wset p 15)) = ([], wset p (15 - r)) := by
  have h := f2 hp hr
  have l1 := wl_len p r
  have l2 := wl_len p 15
  unfold wset
  rw [dupS_toS, dupS_toS, sld_toS 20 _ _ (by simp only [List.length_append, dupW_len, List.length_cons, List.length_nil]; omega), sld_toS 20 _ _ (by simp only [List.length_append, dupW_len, List.length_cons, List.length_nil]; omega), h.1, h.2]
  exact ⟨rfl, rfl⟩
theorem wset_inj {p a b : Nat} (hp : p < 29) (ha : a < 16) (hb : b < 16) (h : wset p a = wset p b) : a = b := by
  refine f3 hp ha hb ?_
  have := congrArg (List.map fun s : Str => s.cps.toList) h
  unfold wset at this
  rw [List.map_map, List.map_map] at this
  simpa [toS, Function.comp_def] using this
theorem bits_less : ∀ a : Nat, a < 16 → ∀ b : Nat, b < 16 → (a &&& (15 ^^^ b)) < 16 ∧ (a : Int) - ((a &&& (15 ^^^ b) : Nat) : Int) + ((b &&& (15 ^^^ a) : Nat) : Int) = b ∧ (a &&& (15 ^^^ b)) + (b &&& (15 ^^^ a)) = a ^^^ b := by decide +kernel
end Mine
end
section
open PySem PySem.W PyProof.Rows PySem.Calls
set_option Elab.async false
set_option maxRecDepth 100000
set_option maxHeartbeats 4000000
namespace Mine
theorem offLawBase : True := by
  w_top off
  exact True.intro
noncomputable abbrev lawScope : Scope := sScope (nth PP.main.body 9)
noncomputable abbrev lawStmts : List Stmt := defBody 9
abbrev lawCl (L : Addr) : List (Str × Addr) := [(Str.ofString "good", L + 6), (Str.ofString "cell", L + 5), (Str.ofString "code", L + 4), (Str.ofString "number", L + 3), (Str.ofString "names", L + 2), (Str.ofString "let", L + 1)]
noncomputable abbrev lawEnv (L : Addr) (cd : Value × Addr) : Env := envX (Str.ofString "law") lawScope L cd.2 cd.1 (lawCl L)
theorem lawEnv_is (L : Addr) (cd : Value × Addr) : envOfC (Str.ofString "law") lawScope L cd.2 cd.1 = lawEnv L cd := rfl
abbrev cellsL (L : Addr) (o1 o2 o3 o4 o5 o6 : Obj) : List (Addr × Obj) := [(L + 1, o1), (L + 2, o2), (L + 3, o3), (L + 4, o4), (L + 5, o5), (L + 6, o6)]
/-- of numbers, that omega reads -/
def AllNe (d : Nat) : List (Addr × Obj) → Prop
  | [] => True
  | p :: r => @Ne Nat p.1 d ∧ AllNe d r
theorem allNe_of {d : Addr} : ∀ {l : List (Addr × Obj)}, (∀ p ∈ l, p.1 ≠ d) → AllNe d l
  | [], _ => trivial
  | p :: _, h => ⟨h p (.head _), allNe_of fun q hq => h q (.tail _ hq)⟩
theorem allLt_new {h₀ h : Heap} {L D : Addr} {l : List (Addr × Obj)} (N : News h₀ L h l) (hD : h.objs.size ≤ D) : AllLt D l := allLt_of fun p hp => Nat.lt_of_lt_of_le (Heap.lt_size (N p hp).1) hD
section
variable {prog : Program} {w : World} {A : Around} {E : Value → Shared → Prop} {s : Shared} {h₀ : Heap} {L l : Addr} {m : Str → Option Value} {news : List (Addr × Obj)} {value slice : PySem.Expr} {its : Array Value} {vl vu : Value} {lo hi : Option Int}
theorem slice_tmp {Q : Value → Shared → Prop} (F : Fr h₀ L s.heap m) (N : News h₀ L s.heap news) (hl : s.heap.IsList l its) (pl : IsPart vl lo) (pu : IsPart vu hi)
    (h : ∀ D h', Fr h₀ L h' m → News h₀ L h' ((D, listOf (slicePick its lo hi none) 0) :: news) → (∀ p ∈ news, p.1 < D) → Q (.ref D) { s with heap := h' })
    (hs : subscripted slice false (.ref l) (.ref s.heap.objs.size) = operate [.ref s.heap.objs.size, .ref l] (getItem (.ref l) (.ref s.heap.objs.size))) (hz : its.size ≤ sizeLine) :
    wpAny (model prog w) A (subscriptTail value slice (.ref l) (.ref s.heap.objs.size)) Q E { s with heap := s.heap.push { cls := .type "slice", data := .fields #[vl, vu, .none] } } := by
  have hT := (Heap.IsList.typeIs (s := { s with heap := s.heap.push { cls := .type "slice", data := .fields #[vl, vu, .none] } }) (hl.push _))
  unfold subscriptTail
  refine wpAny_bind ?_
  rw [getitemInPython_of_ne hT.not_modules]
  refine wpAny_bind (wpAny_specialOf hT list_getitem_lookup ?_)
  have fin : wpAny (model prog w) A (subscripted slice false (.ref l) (.ref s.heap.objs.size)) (fun r s₃ => wpAny (model prog w) A (letTemporaryGo value (.ref l) r >>= fun _ => pure r) Q E s₃) E { s with heap := s.heap.push { cls := .type "slice", data := .fields #[vl, vu, .none] } } := by
    rw [hs]
    refine wpAny_operating (wpAny_mono (wpAny_getItem_list_slice (Q := Q) (hl.push _) (Heap.IsSliceOf.new ..) pl pu .none (by simp) ?_ hz) (fun r s₃ h₃ => wpAny_bind (wpAny_letTemporaryGo (wpAny_pure h₃))) fun _ _ x => x)
    have N1 := News.push (F.push { cls := .type "slice", data := .fields #[vl, vu, .none] }) (N.grown fun _ _ e => Heap.get?_push_of_some _ e) { cls := .type "list", data := .seq (slicePick its lo hi none) }
    rw [Heap.size_push] at N1
    show Q (.ref (s.heap.push _).objs.size) _
    rw [Heap.size_push]
    exact h _ _ ((F.push _).push _) N1 fun p hp => Nat.lt_succ_of_lt (Heap.lt_size (N p hp).1)
  first
    | exact wpAny_pure (wpAny_bind fin)
    | exact wpAny_bind (wpAny_pure (wpAny_bind fin))
    | exact wpAny_bind fin
end
theorem news_drop2 {h₀ h : Heap} {L : Addr} {a b : Addr × Obj} {r : List (Addr × Obj)} (N : News h₀ L h (a :: b :: r)) : News h₀ L h (a :: r) := fun p hp => N p (by
  rcases List.mem_cons.mp hp with rfl | hp
  · exact .head _
  · exact .tail _ (.tail _ hp))
/-- what stands fast while the law's body runs -/
structure Law (w : World) (A : Around) (h₀ : Heap) (L : Addr) (cd : Value × Addr) (mean : ExcName → Option Value) (mg mb : Str → Option Value) : Prop where
  X : (Mine.hd.heap_39 w.params).In h₀
  T : Top VV LS mean mg mb h₀
  hh : A.handled = none
  hfr : A.frames = some [lawEnv L cd]
  hroom : A.depth + 5 < recursionLimit
  hun : A.units + 64 < cLine
end Mine
end
section
open PySem PySem.W PyProof.Rows PySem.Calls PySem.Spec PySem.SeqAt
set_option Elab.async false
set_option maxRecDepth 100000
set_option maxHeartbeats 4000000
namespace Mine
theorem offEqS : True := by
  w_top off
  exact True.intro
theorem eqv_strs : ∀ us vs : List Str, PyData.eqvAll (us.map PyData.str) (vs.map PyData.str) = decide (us = vs)
  | [], [] => by simp [PyData.eqvAll]
  | [], _ :: _ => by simp [PyData.eqvAll]
  | _ :: _, [] => by simp [PyData.eqvAll]
  | a :: r, b :: t => by
    simp only [List.map_cons, PyData.eqvAll, PyData.eqv, eqv_strs r t]
    by_cases h : a = b <;> by_cases h' : r = t <;> simp [h, h']
theorem strOk_of (x : String) : PyData.strOk (Str.ofString x) = true := by
  unfold PyData.strOk
  rw [Str.ofString_eq_toList, List.all_toArray, List.all_map, List.all_eq_true]
  intro c _
  have := c.valid
  simp only [Function.comp_apply, decide_eq_true_eq]
  rcases this with h | h
  · have h : c.val.toNat < 0xd800 := h
    show c.val.toNat < _
    omega
  · have h : c.val.toNat < 0x110000 := h.2
    exact h
theorem strOk_app {a b : Str} (ha : PyData.strOk a = true) (hb : PyData.strOk b = true) : PyData.strOk (a ++ b) = true := by
  unfold PyData.strOk at *
  show ((a.cps ++ b.cps).all _) = true
  rw [Array.all_append, ha, hb]; rfl
theorem lawWords_ok : lawWords.all PyData.strOk = true := by decide +kernel
theorem hex_ok (z : Int) : PyData.strOk (baseText "0x" 16 z) = true := by
  unfold baseText
  exact strOk_app (strOk_app (strOk_of _) (strOk_of _)) (strOk_of _)
theorem dueB_ok {p n : Nat} (hp : p < 29) : ∀ w ∈ dueB p n, PyData.strOk w = true := fun w hw => List.all_eq_true.mp lawWords_ok w (names4_sub p w (dueB_mem hp w hw))
theorem tailW_ok (share : Int) : ∀ w ∈ tailW share, PyData.strOk w = true := fun w hw => by
  unfold tailW at hw
  split at hw
  · rw [List.mem_singleton.mp hw]
    exact strOk_app (hex_ok _) (strOk_of _)
  · cases hw
theorem toS_ok {p n : Nat} (hp : p < 29) : ∀ w ∈ wset p n, PyData.strOk w = true := fun w hw => by
  obtain ⟨x, hx, rfl⟩ := List.mem_map.mp hw
  obtain ⟨y, hy, rfl⟩ := List.mem_map.mp ((sortW_perm _).mem_iff.mp hx)
  rw [toS_cps]
  exact dueB_ok hp y hy
theorem shaped_strs {us : List Str} (h : ∀ w ∈ us, PyData.strOk w = true) : shaped (.list (us.map PyData.str)) = true := by
  have h1 : PyData.canLayAll0 (us.map PyData.str) = true := by rw [canLayAll_strs']; exact List.all_eq_true.mpr h
  have h2 : PyData.depthAll (us.map PyData.str) = 0 := by
    clear h h1
    induction us with
    | nil => rfl
    | cons a r ih => simp only [List.map_cons, PyData.depthAll, PyData.depth, ih]; rfl
  unfold shaped
  simp only [PyData.canLay0, PyData.depth, h1, h2]
  decide
section
variable {prog : Program} {w : World} {A : Around} {E : Value → Shared → Prop} {s : Shared} {a b : Addr} {xs ys : List Value} {us vs : List Str} {Q : Value → Shared → Prop}
theorem eq_strs (ha : s.heap.IsList a xs.toArray) (hx : StrsAre xs us) (hb : s.heap.IsList b ys.toArray) (hy : StrsAre ys vs) (oa : ∀ w ∈ us, PyData.strOk w = true) (ob : ∀ w ∈ vs, PyData.strOk w = true) (hu : A.units + 64 < cLine)
    (h : Q (.bool (decide (us = vs))) s) : wpAny (model prog w) A (compareOp .Eq (.ref a) (.ref b)) Q E s := by
  refine eq_dataH (reads_newData ha hx.carried) (reads_newData hb hy.carried) (shaped_strs oa) (shaped_strs ob) hu ?_
  rw [PyData.eqv, eqv_strs]
  exact h
end
end Mine
end
section
open PySem PySem.W PyProof.Rows PySem.Calls
set_option Elab.async false
set_option maxRecDepth 100000
set_option maxHeartbeats 4000000
namespace Mine
theorem offCells : True := by
  w_top off
  exact True.intro
theorem updF_mid {c : Addr} {o : Obj} : ∀ {pre post : List (Addr × Obj)}, (∀ p ∈ pre, p.1 ≠ c) → (∀ p ∈ post, p.1 ≠ c) → UpdF c o (pre ++ (c, o) :: post) (fun o' => pre ++ (c, o') :: post)
  | [], _, _, h2 => .head h2
  | p :: pre, post, h1, h2 => .tail (h1 p (.head _)) (updF_mid (fun q hq => h1 q (.tail _ hq)) h2)
section
variable {w : World} {A : Around} {E : Value → Shared → Prop} {s : Shared} {h₀ : Heap} {L : Nat} {cd : Value × Addr} {m : Str → Option Value} {x : Str} {v : Value} {v₀ : Option Value} {c : Addr} {o : Obj} {pre post : List (Addr × Obj)} {pos : Pos} {Q : Unit → Shared → Prop}
theorem store_cell (F : Fr h₀ L s.heap m) (N : News h₀ L s.heap (pre ++ (c, o) :: post)) (hc : (lawCl L).lookup x = some c) (h1 : ∀ p ∈ pre, p.1 ≠ c) (h2 : ∀ p ∈ post, p.1 ≠ c) (hd : o.data = .cell v₀)
    (hx : (lawEnv L cd).kindOf x = some .cell) (hk : lawScope.kind = .function)
    (h : ∀ h' tk o', Fr h₀ L h' m → News h₀ L h' (pre ++ (c, o') :: post) → o'.data = .cell (some v) → Q () { s with heap := h', toks := tk }) :
    wpAny (model PP w) A (assign (.Name x pos) (lawEnv L cd) v) Q E s :=
  wpAny_assign_Name (storeX_C F N hc (updF_mid h1 h2) hd (fun h' o' F' N' d' => h h' _ o' F' N' d') hk hx)
theorem store_cellN (F : Fr h₀ L s.heap m) (N : News h₀ L s.heap (pre ++ (c, o) :: post)) (hc : (lawCl L).lookup x = some c) (h1 : ∀ p ∈ pre, p.1 ≠ c) (h2 : ∀ p ∈ post, p.1 ≠ c) (hd : o.data = .cell v₀)
    (hx : (lawEnv L cd).kindOf x = some .cell) (hk : lawScope.kind = .function)
    (h : ∀ h' o', Fr h₀ L h' m → News h₀ L h' (pre ++ (c, o') :: post) → o'.data = .cell (some v) → Q () { s with heap := h' }) :
    wpAny (model PP w) A (storeName (lawEnv L cd) x v) Q E s :=
  storeX_C F N hc (updF_mid h1 h2) hd (fun h' o' F' N' d' => h h' o' F' N' d') hk hx
end
theorem News.sub {h₀ h : Heap} {L : Addr} {a b : List (Addr × Obj)} (N : News h₀ L h a) (hs : ∀ p ∈ b, p ∈ a) : News h₀ L h b := fun p hp => N p (hs p hp)
/-- the lists of words so far -/
structure WordsAt (p : Nat) (refs : List Value) (wsL : List (Addr × Obj)) (aw : Nat) : Prop where
  at_ : ∀ j, j < refs.length → ∃ a vs n, refs[j]? = some (.ref a) ∧ (a, listOf vs.toArray n) ∈ wsL ∧ StrsAre vs (wset p j)
  above : ∀ q ∈ wsL, aw < (show Nat from q.1)
  data : ∀ q ∈ wsL, ∀ f, q.2.data ≠ .fields f
theorem WordsAt.nil {p aw : Nat} : WordsAt p [] [] aw := ⟨fun j hj => absurd hj (Nat.not_lt_zero _), fun q hq => (nomatch hq), fun q hq => (nomatch hq)⟩
theorem WordsAt.snoc {p aw : Nat} {refs : List Value} {wsL : List (Addr × Obj)} (W : WordsAt p refs wsL aw) {a : Nat} {vs : List Value} {n : Nat} (hv : StrsAre vs (wset p refs.length)) (ha : aw < a) : WordsAt p (refs ++ [.ref a]) ((a, listOf vs.toArray n) :: wsL) aw := by
  refine ⟨fun j hj => ?_, fun q hq => ?_, fun q hq => ?_⟩
  · rw [List.length_append, List.length_singleton] at hj
    by_cases e : j < refs.length
    · obtain ⟨a', vs', n', e1, e2, e3⟩ := W.at_ j e
      exact ⟨a', vs', n', by rw [List.getElem?_append_left e]; exact e1, .tail _ e2, e3⟩
    · obtain rfl : j = refs.length := by omega
      exact ⟨a, vs, n, by simp, .head _, hv⟩
  · rcases List.mem_cons.mp hq with rfl | hq
    · exact ha
    · exact W.above q hq
  · rcases List.mem_cons.mp hq with rfl | hq
    · intro f e; cases e
    · exact W.data q hq
end Mine
end
section
open PySem PySem.W PyProof.Rows PySem.Calls
set_option Elab.async false
set_option maxRecDepth 100000
set_option maxHeartbeats 4000000
namespace Mine
theorem offLaw2 : True := by
  w_top off
  exact True.intro
local macro_rules | `(tactic| walk_at "pad 9 0") => `(tactic| fail)
local macro_rules | `(tactic| walk_at "pad 9 1") => `(tactic| fail)
local macro_rules | `(tactic| walk_at "pad 9 2") => `(tactic| fail)
local macro_rules | `(tactic| walk_at "pad 9 3") => `(tactic| fail)
local macro_rules | `(tactic| walk_at "pad 9 4") => `(tactic| fail)
local macro_rules | `(tactic| walk_at "pad 9 5") => `(tactic| fail)
local macro_rules | `(tactic| walk_at "pad 9 6") => `(tactic| fail)
local macro_rules | `(tactic| walk_at "pad 9 7") => `(tactic| fail)
local macro_rules | `(tactic| walk_at "my steps") => `(tactic| repeat' (first | ((fail_if_success (with_reducible show wpAny _ _ (execs (List.drop _ _) _) _ _ _)); (fail_if_success (with_reducible show wpAny _ _ (exec (Stmt.For _ _ _ _ _) _) _ _ _)); (fail_if_success (with_reducible show wpAny _ _ (call (Value.ref _) _) _ _ _)); (fail_if_success (with_reducible show wpAny _ _ (call (Value.builtin "list.append") _) _ _ _)); (fail_if_success (with_reducible show wpAny _ _ (subscriptTail _ _ (Value.ref _) (Value.ref _)) _ _ _)); first | (k_unfold; (try dsimp only)) | (walk1 <;> (try dsimp only)) | (dsimp only; walk1) | (leave1; (try dsimp only)))))
theorem fill_k4 (w : World) (h : Heap) : (Mine.hd.heap_39 w.params).In h → Challenge.rw_tv0007_01.row.prog = Challenge.rw_tv0007_01.row.prog := by
  k_fill
  intro _
  rfl
variable {w : World} {A : Around} {E : Value → Shared → Prop} {Q : Flow → Shared → Prop} {s : Shared} {h₀ : Heap} {L ac : Nat} {cd : Value × Addr} {mean : ExcName → Option Value} {mg mb m : Str → Option Value}
theorem law2 (W : Law w A h₀ L cd mean mg mb) {cvs : List Value} {cs : List Int} {n : Nat} {o1 o2 o3 o4 o5 o6 : Obj}
    (S : Says m [(Str.ofString "cells", .ref ac)]) (F : Fr h₀ L s.heap m) (N : News h₀ L s.heap [(ac, listOf cvs.toArray n), (L + 1, o1), (L + 2, o2), (L + 3, o3), (L + 4, o4), (L + 5, o5), (L + 6, o6)]) (hac : L + 6 < ac)
    (hc : IntsAre cvs cs) (hcl : cs.length = 6) {place share lt : Int} (hp : (cs.getD (Int.toNat 5) 0).fmod 29 = place) (hsh : (cs.getD (Int.toNat 5) 0).fdiv 29 = share) (hlt : (cs.getD (Int.toNat 4) 0).fmod 65536 = lt)
    (h1 : o1.data = .cell none) (h2 : o2.data = .cell none) (h3 : o3.data = .cell none) (h4 : o4.data = .cell none) (h5 : o5.data = .cell none) (h6 : o6.data = .cell none)
    (hnext : ∀ h' tk m' (an aw : Nat) nvs nn o1' o2' tp ts tl, Fr h₀ L h' m' → News h₀ L h' [(aw, listOf #[] 0), (an, listOf nvs.toArray nn), (ac, listOf cvs.toArray n), (L + 1, o1'), (L + 2, o2'), (L + 3, o3), (L + 4, o4), (L + 5, o5), (L + 6, o6)] →
      o1'.data = .cell (some (.int lt tl)) → o2'.data = .cell (some (.ref an)) → StrsAre nvs ((lawWords.drop place.toNat).take 4) →
      Says m' [(Str.ofString "cells", .ref ac), (Str.ofString "place", .int place tp), (Str.ofString "share", .int share ts), (Str.ofString "words", .ref aw)] → ac < an → an < aw →
      wpAny (model PP w) A (execs (lawStmts.drop 7) (lawEnv L cd)) Q E { s with heap := h', toks := tk }) :
    wpAny (model PP w) A (execs (lawStmts.drop 2) (lawEnv L cd)) Q E s := by
  have X := W.X
  have T := W.T
  have hh := W.hh
  have TR := topRead_of T
  have F := fr_says F _ S
  dsimp only [kstB] at F
  change wpAny _ _ (execs (_ :: _ :: _ :: _ :: _ :: lawStmts.drop 7) (envX _ { kind := _, names := _ :: _, isGenerator := _, isCoroutine := _, more := _ } L _ _ _)) _ _ _
  walk_at "my steps"
  rename_i h3' F3 N3
  refine words_call (X.keeps F3.keep) (T.keeps F3.keep) hh (by have := W.hroom; omega) (fun h4' tk4 D ys n4 hk4 hD4 hf4 hg4 hy4 => ?_)
  obtain ⟨F4, N4⟩ := plain_keep F3 N3 hk4 hf4 hg4
  have l4 := allLt_new N3 hD4
  dsimp only [AllLt] at l4
  dsimp only at F4 N4 ⊢
  have hp0 : 0 ≤ place := by rw [← hp]; exact Int.fmod_nonneg_of_pos _ (by decide)
  have hp1 : place < 29 := by rw [← hp]; exact Int.fmod_lt_of_pos _ (by decide)
  rw [hp, hsh] at F4
  clear F3 N3
  walk_at "my steps"
  have hyl := hy4.len_eq
  rw [show lawWords.length = 32 by decide +kernel] at hyl
  refine slice_tmp (s := ⟨_, _, _, _, _⟩) F4 N4 (N4.isList (.head _)) (.int _ _) (.int _ _) (fun an h5 F5 N5 l5 => ?_) (by with_unfolding_all rfl) (by rw [List.size_toArray, hyl]; decide)
  rw [pick_mid hp0 (by omega) (by rw [hyl]; omega)] at N5
  rw [show (place + 4).toNat - place.toNat = 4 by omega] at N5
  have N5 := news_drop2 N5
  have l6 : ac < an := (allLt_of l5).2.1
  walk_at "my steps"
  rename_i d2 tk6 aw h5' l7 h6 F6 N6
  refine hnext h6 _ _ an aw _ _ _ _ _ _ _ F6 N6 (by rw [← hlt]; assumption) (by assumption) ((hy4.drop' _).take' _) ⟨by rfl, by rfl, by rfl, by rfl, trivial⟩ l6 l7.1
end Mine
end
section
open PySem PySem.W PyProof.Rows PySem.Calls
set_option Elab.async false
set_option maxRecDepth 100000
set_option maxHeartbeats 4000000
namespace Mine
theorem offLaw7a : True := by
  w_top off
  exact True.intro
local macro_rules | `(tactic| walk_at "pad 10 0") => `(tactic| fail)
local macro_rules | `(tactic| walk_at "pad 10 1") => `(tactic| fail)
local macro_rules | `(tactic| walk_at "pad 10 2") => `(tactic| fail)
local macro_rules | `(tactic| walk_at "pad 10 3") => `(tactic| fail)
local macro_rules | `(tactic| walk_at "pad 10 4") => `(tactic| fail)
local macro_rules | `(tactic| walk_at "pad 10 5") => `(tactic| fail)
local macro_rules | `(tactic| walk_at "pad 10 6") => `(tactic| fail)
local macro_rules | `(tactic| walk_at "pad 10 7") => `(tactic| fail)
theorem fill_k5 (w : World) (h : Heap) : (Mine.hd.heap_39 w.params).In h → Challenge.rw_tv0007_01.row.prog = Challenge.rw_tv0007_01.row.prog := by
  k_fill
  intro _
  rfl
local macro_rules | `(tactic| walk_at "my steps") => `(tactic| repeat' (first | ((fail_if_success (with_reducible show wpAny _ _ (execs (List.drop _ _) _) _ _ _)); (fail_if_success (with_reducible show wpAny _ _ (exec (Stmt.For _ _ _ _ _) _) _ _ _)); (fail_if_success (with_reducible show wpAny _ _ (eval (Expr.ListComp _ _ _ _) _) _ _ _)); (fail_if_success (with_reducible show wpAny _ _ (call (Value.ref _) _) _ _ _)); (fail_if_success (with_reducible show wpAny _ _ (call (Value.builtin "list.append") _) _ _ _)); first | (k_unfold; (try dsimp only)) | (walk1 <;> (try dsimp only)) | (dsimp only; walk1) | (leave1; (try dsimp only)))))
local macro_rules | `(tactic| walk_at "eval Name") => `(tactic| (first
  | ((with_reducible show wpAny _ _ (eval (Expr.Name (Str.ofString "k") _) (compEnvC _ _ _ _)) _ _ _); k_dflt (refine' c_local ?F ?v ?_ ?k ?x ?b; (case x => rfl); (case k => rfl); (case b => decide); (case F => assumption); (case v => assumption)))
  | ((with_reducible show wpAny _ _ (eval (Expr.Name (Str.ofString "number") _) (compEnvC _ _ _ _)) _ _ _); k_dflt (refine' c_cell ?F ?c ?m ?d ?_ ?k ?x ?b; (case x => rfl); (case k => rfl); (case b => decide); (case c => rfl); (case F => assumption); (case m => assumption); (case d => assumption)))
  | ((with_reducible show wpAny _ _ (eval (Expr.Name (Str.ofString "names") _) (compEnvC _ _ _ _)) _ _ _); k_dflt (refine' c_cell ?F ?c ?m ?d ?_ ?k ?x ?b; (case x => rfl); (case k => rfl); (case b => decide); (case c => rfl); (case F => assumption); (case m => assumption); (case d => assumption)))))
variable {w : World} {A : Around} {E : Value → Shared → Prop} {Q : Flow → Shared → Prop} {s : Shared} {h₀ : Heap} {L an : Nat} {cd : Value × Addr} {mean : ExcName → Option Value} {mg mb m : Str → Option Value}
noncomputable abbrev body7 : List Stmt := sBody (nth lawStmts 7)
theorem due_comp (W : Law w A h₀ L cd mean mg mb) {news : List (Addr × Obj)} {nvs : List Value} {nn n p : Nat} {o2 o3 : Obj} {tn : Tok}
    (F : Fr h₀ L s.heap m) (N : News h₀ L s.heap news) (hp : p < 29) (hn : n < 16)
    (m1 : (L + 2, o2) ∈ news) (m2 : (L + 3, o3) ∈ news) (m3 : (an, listOf nvs.toArray nn) ∈ news) (d2 : o2.data = .cell (some (.ref an))) (d3 : o3.data = .cell (some (.int n tn)))
    (hnv : StrsAre nvs (names4 p))
    (hQ : ∀ D ys h' tk n', Fr h₀ L h' (fun z => if z = Str.ofString "due" then some (.ref D) else m z) → News h₀ L h' ((D, listOf ys.toArray n') :: news) → StrsAre ys (dueB p n) → (∀ q ∈ news, q.1 ≠ D) → Q .next { s with heap := h', toks := tk }) :
    wpAny (model PP w) A (exec (nth body7 0) (lawEnv L cd)) Q E s := by
  have X := W.X
  have T := W.T
  have hh := W.hh
  have TR := topRead_of T
  change wpAny _ _ (exec (.Assign [.Name _ _] (.ListComp _ [⟨.Name _ _, _, _, 0⟩] _ _) _) (envX _ { kind := _, names := _ :: _, isGenerator := _, isCoroutine := _, more := _ } L _ _ _)) _ _ _
  refine comp_range_to (cl := [(Str.ofString "number", L + 3), (Str.ofString "names", L + 2)]) (a := 0) (b := 4) (n := 4) (fun k => bitN n k.toNat) (fun k => PyData.str ((names4 p).getD k.toNat (Str.ofString ""))) F N (by with_unfolding_all rfl) rfl hh (by with_unfolding_all rfl) (by decide) (by rfl) (by decide) (by rfl) (by rfl) (by rfl) (by intro x; with_unfolding_all rfl) (by decide) (by decide) (by decide) ?_ ?_ ?_ ?_
  · intro Q' hQ'
    walk_at "my steps"
    exact hQ' _ _ _ _ _ _ (by assumption) (by assumption) (by assumption)
  · intro h₁ C t k s₂ m₂ E' F1 N1 hk F2 hm
    have g2 := (N1 _ m1).1
    have g3 := (N1 _ m2).1
    obtain ⟨hk1, hk2⟩ := mem_rangeInts hk
    refine wpAny_tests_one ?_
    walk_at "my steps"
    · have hz : (0 : Int) ≤ 2 ^ k.toNat := Int.le_of_lt (Int.pow_pos (by decide))
      rw [Int.fdiv_eq_ediv_of_nonneg _ hz, Int.fmod_eq_emod_of_nonneg _ (by decide)]
      have e : ((n : Int) / 2 ^ k.toNat) = ((n / 2 ^ k.toNat : Nat) : Int) := by simp
      rw [e]
      unfold bitN
      rw [Bool.eq_iff_iff, beq_iff_eq, beq_iff_eq]
      omega
    · exact ⟨_, _, rfl, fun _ _ e => e⟩
  · intro h₁ C t k s₂ m₂ E' F1 N1 hk _ F2 hm
    have g2 := (N1 _ m1).1
    have l3 : s₂.heap.IsList an nvs.toArray := ⟨_, F2.keep _ _ (N1 _ m3).1, rfl, _, rfl⟩
    obtain ⟨hk1, hk2⟩ := mem_rangeInts hk
    have hl4 := names4_len p hp
    walk_at "my steps"
    · have e : (names4 p).getD k.toNat (Str.ofString "") = (names4 p).getD k.toNat Str.empty := by
        have hlt : k.toNat < (names4 p).length := by omega
        rw [List.getD_eq_getElem?_getD, List.getD_eq_getElem?_getD, List.getElem?_eq_getElem hlt]; rfl
      rw [e]
      exact .str _ _
    · exact ⟨_, _, rfl, fun _ _ e => e⟩
  · intro D ys h' tk n' F3 N3 hc hne
    refine hQ D ys h' tk n' F3 N3 ?_ hne
    refine StrsAre.of_carried ?_
    have e : ((rangeInts 0 1 4).filter fun k => bitN n k.toNat).map (fun k => PyData.str ((names4 p).getD k.toNat (Str.ofString ""))) = (dueB p n).map PyData.str := by
      unfold dueB
      rw [show rangeInts 0 1 4 = (List.range 4).map Int.ofNat by decide, List.filter_map, List.map_map, List.map_map]
      rfl
    rw [← e]; exact hc
end Mine
end
section
open PySem PySem.W PyProof.Rows PySem.Calls
set_option Elab.async false
set_option maxRecDepth 100000
set_option maxHeartbeats 4000000
namespace Mine
theorem offLaw7b : True := by
  w_top off
  exact True.intro
local macro_rules | `(tactic| walk_at "pad 11 0") => `(tactic| fail)
local macro_rules | `(tactic| walk_at "pad 11 1") => `(tactic| fail)
local macro_rules | `(tactic| walk_at "pad 11 2") => `(tactic| fail)
local macro_rules | `(tactic| walk_at "pad 11 3") => `(tactic| fail)
local macro_rules | `(tactic| walk_at "pad 11 4") => `(tactic| fail)
local macro_rules | `(tactic| walk_at "pad 11 5") => `(tactic| fail)
local macro_rules | `(tactic| walk_at "pad 11 6") => `(tactic| fail)
local macro_rules | `(tactic| walk_at "pad 11 7") => `(tactic| fail)
local macro_rules | `(tactic| walk_at "pad 11 8") => `(tactic| fail)
local macro_rules | `(tactic| walk_at "pad 11 9") => `(tactic| fail)
theorem fill_k6 (w : World) (h : Heap) : (Mine.hd.heap_39 w.params).In h → Challenge.rw_tv0007_01.row.prog = Challenge.rw_tv0007_01.row.prog := by
  k_fill
  intro _
  rfl
local macro_rules | `(tactic| walk_at "my steps") => `(tactic| repeat' (first | ((fail_if_success (with_reducible show wpAny _ _ (execs (List.drop _ _) _) _ _ _)); (fail_if_success (with_reducible show wpAny _ _ (execs (nth _ _ :: _) _) _ _ _)); (fail_if_success (with_reducible show wpAny _ _ (exec (Stmt.For _ _ _ _ _) _) _ _ _)); (fail_if_success (with_reducible show wpAny _ _ (eval (Expr.ListComp _ _ _ _) _) _ _ _)); (fail_if_success (with_reducible show wpAny _ _ (exec (Stmt.Assign _ (Expr.ListComp _ _ _ _) _) _) _ _ _)); (fail_if_success (with_reducible show wpAny _ _ (call (Value.ref _) _) _ _ _)); (fail_if_success (with_reducible show wpAny _ _ (compareOp _ (Value.ref _) (Value.ref _)) _ _ _)); (fail_if_success (with_reducible show wpAny _ _ (call (Value.builtin "list.append") _) _ _ _)); (fail_if_success (with_reducible show wpAny _ _ (call (Value.builtin "hex") _) _ _ _)); (fail_if_success (with_reducible show wpAny _ _ (call (Value.builtin "str.join") _) _ _ _)); first | (k_unfold; (try dsimp only)) | (walk1 <;> (try dsimp only)) | (dsimp only; walk1) | (leave1; (try dsimp only)))))
variable {w : World} {A : Around} {E : Value → Shared → Prop} {Q : Flow → Shared → Prop} {s : Shared} {h₀ : Heap} {L an : Nat} {cd : Value × Addr} {mean : ExcName → Option Value} {mg mb m : Str → Option Value}
theorem due_if0 (W : Law w A h₀ L cd mean mg mb) {D : Nat} {news : List (Addr × Obj)} {ys : List Value} {us : List Str} {nd : Nat} {rest : List Stmt}
    (F : Fr h₀ L s.heap m) (N : News h₀ L s.heap ((D, listOf ys.toArray nd) :: news)) (hy : StrsAre ys us) (hne : ∀ q ∈ news, q.1 ≠ D) (ok : ∀ w ∈ us, PyData.strOk w = true)
    (S : Says m [(Str.ofString "due", .ref D)])
    (hQ : ∀ h' tk ys' n', Fr h₀ L h' m → News h₀ L h' ((D, listOf ys'.toArray n') :: news) → StrsAre ys' (if us = [] then [Str.ofString "0x0"] else us) → wpAny (model PP w) A (execs rest (lawEnv L cd)) Q E { s with heap := h', toks := tk }) :
    wpAny (model PP w) A (execs ((nth body7 2) :: rest) (lawEnv L cd)) Q E s := by
  have X := W.X
  have T := W.T
  have hh := W.hh
  have TR := topRead_of T
  have F0 := F
  have F := fr_says F _ S
  dsimp only [kstB] at F
  change wpAny _ _ (execs (Stmt.If _ _ _ _ :: rest) (envX _ { kind := _, names := _ :: _, isGenerator := _, isCoroutine := _, more := _ } L _ _ _)) _ _ _
  walk_at "my steps"
  rename_i l' h' F2 N2 l2
  refine eq_strs (N2.isList (.tail _ (.head _))) hy (N2.isList (.head _)) StrsAre.nil ok (by intro w hw; cases hw) W.hun ?_
  have hl' : l' ≠ D := (Ne.symm (Nat.ne_of_lt l2.1))
  by_cases e : us = []
  · subst e
    rw [if_pos rfl] at hQ
    obtain rfl : ys = [] := List.eq_nil_of_length_eq_zero hy.len_eq
    walk_at "my steps"
    refine append_x (pre := [(l', _)]) (post := news) F2 N2 (by intro p hp; rw [List.mem_singleton.mp hp]; exact hl') hne (by decide) (fun h2 n2 F3 N3 => ?_)
    walk_at "my steps"
    exact hQ _ _ _ _ (fr_unsay S F3) (fun p hp => N3 p (.tail _ hp)) (.cons _ _ .nil)
  · rw [decide_eq_false e]
    rw [if_neg e] at hQ
    walk_at "my steps"
    exact hQ _ _ _ _ (fr_unsay S F2) (fun p hp => N2 p (.tail _ hp)) hy
theorem due_more (W : Law w A h₀ L cd mean mg mb) {p n D : Nat} {news : List (Addr × Obj)} {share : Int} {ts : Tok} {ys : List Value} {nd B : Nat} {rest : List Stmt}
    (F : Fr h₀ L s.heap m) (N : News h₀ L s.heap ((D, listOf ys.toArray nd) :: news)) (hy : StrsAre ys (dueB p n)) (hne : ∀ q ∈ news, q.1 ≠ D) (hp : p < 29)
    (S : Says m [(Str.ofString "due", .ref D), (Str.ofString "share", .int share ts)])
    (hB : (share * 2 ^ 32).natAbs < 2 ^ B) (hB2 : B ≤ 2000000)
    (hQ : ∀ h' tk ys' n', Fr h₀ L h' m → News h₀ L h' ((D, listOf ys'.toArray n') :: news) → StrsAre ys' (due p n share) → wpAny (model PP w) A (execs rest (lawEnv L cd)) Q E { s with heap := h', toks := tk }) :
    wpAny (model PP w) A (execs ((nth body7 1) :: (nth body7 2) :: rest) (lawEnv L cd)) Q E s := by
  have X := W.X
  have T := W.T
  have hh := W.hh
  have TR := topRead_of T
  have F0 := F
  have F := fr_says F _ S
  dsimp only [kstB] at F
  clear F0
  have hBs : share.natAbs < 2 ^ B := by
    refine Nat.lt_of_le_of_lt ?_ hB
    rw [Int.natAbs_mul]
    exact Nat.le_mul_of_pos_right _ (by decide)
  have hhex := hex_len _ _ hBs
  have hlen : ys.length ≤ 4 := by
    rw [hy.len_eq]; unfold dueB; rw [List.length_map]
    exact Nat.le_trans (List.length_filter_le _ _) (by simp)
  have ok : ∀ w ∈ dueB p n ++ tailW share, PyData.strOk w = true := fun w hw => by
    rcases List.mem_append.mp hw with hw | hw
    · exact dueB_ok hp w hw
    · exact tailW_ok share w hw
  change wpAny _ _ (execs (Stmt.If _ _ _ _ :: (nth body7 2) :: rest) (envX _ { kind := _, names := _ :: _, isGenerator := _, isCoroutine := _, more := _ } L _ _ _)) _ _ _
  walk_at "my steps"
  · refine P.hex_of_int ?_ (Nat.le_trans hhex (Nat.le_trans (Nat.add_le_add_right hB2 4) (by decide)))
    walk_at "my steps"
    refine append_x (pre := []) (post := news) F N (by intro p hp; cases hp) hne (Nat.le_trans hlen (by decide)) (fun h2 n2 F3 N3 => ?_)
    walk_at "my steps"
    have ht : tailW share = [baseText "0x" 16 share ++ Str.ofString "00000000"] := if_pos (by assumption)
    rw [ht] at ok
    refine due_if0 W (fr_unsay S F3) N3 (Mine.StrsAre.snoc hy) hne ok ⟨S.1, trivial⟩ (fun h' tk ys' n' F4 N4 h4 => hQ _ _ _ _ F4 N4 ?_)
    rw [due, ht]; exact h4
  · have ht : tailW share = [] := if_neg (by intro q; exact q (by assumption))
    rw [ht, List.append_nil] at ok
    refine due_if0 W (fr_unsay S F) N hy hne ok ⟨S.1, trivial⟩ (fun h' tk ys' n' F4 N4 h4 => hQ _ _ _ _ F4 N4 ?_)
    rw [due, ht, List.append_nil]; exact h4
end Mine
end
section
open PySem PySem.W PyProof.Rows PySem.Calls
set_option Elab.async false
set_option maxRecDepth 100000
set_option maxHeartbeats 4000000
namespace Mine
theorem offLaw7c : True := by
  w_top off
  exact True.intro
local macro_rules | `(tactic| walk_at "pad 12 0") => `(tactic| fail)
local macro_rules | `(tactic| walk_at "pad 12 1") => `(tactic| fail)
local macro_rules | `(tactic| walk_at "pad 12 2") => `(tactic| fail)
local macro_rules | `(tactic| walk_at "pad 12 3") => `(tactic| fail)
local macro_rules | `(tactic| walk_at "pad 12 4") => `(tactic| fail)
local macro_rules | `(tactic| walk_at "pad 12 5") => `(tactic| fail)
local macro_rules | `(tactic| walk_at "pad 12 6") => `(tactic| fail)
local macro_rules | `(tactic| walk_at "pad 12 7") => `(tactic| fail)
local macro_rules | `(tactic| walk_at "pad 12 8") => `(tactic| fail)
theorem fill_k7 (w : World) (h : Heap) : (Mine.hd.heap_39 w.params).In h → Challenge.rw_tv0007_01.row.prog = Challenge.rw_tv0007_01.row.prog := by
  k_fill
  intro _
  rfl
local macro_rules | `(tactic| k_mem) => `(tactic| with_reducible assumption)
local macro_rules | `(tactic| k_all) => `(tactic| with_reducible assumption)
local macro_rules | `(tactic| walk_at "eval Name") => `(tactic| ((with_reducible show wpAny _ _ (eval (Expr.Name (Str.ofString "number") _) (envX _ _ _ _ _ _)) _ _ _); k_dflt (refine' nameX_C (c := _ + 3) ?N ?c ?m ?d ?_ ?a ?b; (case c => rfl); (case a => rfl); (case b => rfl); (case N => assumption); (case m => repeat (first | assumption | refine List.Mem.tail _ ?_)); (case d => assumption))))
local macro_rules | `(tactic| walk_at "my steps") => `(tactic| repeat' (first | ((fail_if_success (with_reducible show wpAny _ _ (execs (List.drop _ _) _) _ _ _)); (fail_if_success (with_reducible show wpAny _ _ (execs (nth _ _ :: _) _) _ _ _)); (fail_if_success (with_reducible show wpAny _ _ (exec (Stmt.For _ _ _ _ _) _) _ _ _)); (fail_if_success (with_reducible show wpAny _ _ (eval (Expr.ListComp _ _ _ _) _) _ _ _)); (fail_if_success (with_reducible show wpAny _ _ (exec (Stmt.Assign _ (Expr.ListComp _ _ _ _) _) _) _ _ _)); (fail_if_success (with_reducible show wpAny _ _ (call (Value.ref _) _) _ _ _)); (fail_if_success (with_reducible show wpAny _ _ (compareOp _ (Value.ref _) (Value.ref _)) _ _ _)); (fail_if_success (with_reducible show wpAny _ _ (compareOp _ (Value.str _ _) (Value.ref _)) _ _ _)); (fail_if_success (with_reducible show wpAny _ _ (call (Value.builtin "list.append") _) _ _ _)); (fail_if_success (with_reducible show wpAny _ _ (call (Value.builtin "hex") _) _ _ _)); (fail_if_success (with_reducible show wpAny _ _ (call (Value.builtin "str.join") _) _ _ _)); (fail_if_success (with_reducible show wpAny _ _ (call (Value.builtin "str.split") _) _ _ _)); (fail_if_success (with_reducible show wpAny _ _ (call (Value.builtin "sorted") _) _ _ _)); first | (k_unfold; (try dsimp only)) | (walk1 <;> (try dsimp only)) | (dsimp only; walk1) | (leave1; (try dsimp only)))))
variable {w : World} {A : Around} {E : Value → Shared → Prop} {Q : Flow → Shared → Prop} {s : Shared} {h₀ : Heap} {L an aw : Nat} {cd : Value × Addr} {mean : ExcName → Option Value} {mg mb m : Str → Option Value}
local macro_rules | `(tactic| walk_at "eval Name") => `(tactic| (first
  | ((with_reducible show wpAny _ _ (eval (Expr.Name (Str.ofString "word") _) (compEnvC _ _ _ _)) _ _ _); k_dflt (refine' c_local ?F ?v ?_ ?k ?x ?b; (case x => rfl); (case k => rfl); (case b => decide); (case F => assumption); (case v => assumption)))
  | ((with_reducible show wpAny _ _ (eval (Expr.Name (Str.ofString "names") _) (compEnvC _ _ _ _)) _ _ _); k_dflt (refine' c_cell ?F ?c ?m ?d ?_ ?k ?x ?b; (case x => rfl); (case k => rfl); (case b => decide); (case c => rfl); (case F => assumption); (case m => assumption); (case d => assumption)))))
theorem jl_len : ∀ ws : List Str, (Spl.jl ws).length ≤ (ws.map (·.length)).sum + 2 * ws.length
  | [] => Nat.zero_le _
  | [w] => by simp [Spl.jl, Spl.len_list]
  | w :: v :: r => by
    have ih := jl_len (v :: r)
    simp only [Spl.jl, List.length_append, List.length_cons, List.map_cons, List.sum_cons] at ih ⊢
    have := Spl.len_list w
    omega
theorem text_len {p n : Nat} {share : Int} {B : Nat} (hn : n < 16) (hp : p < 29) (hB : (share * 2 ^ 32).natAbs < 2 ^ B) :
    ((due p n share).map (·.length)).sum ≤ 3204 + B ∧ (due p n share).length ≤ 33 ∧ (Txt.join (Str.ofString ", ") (due p n share)).length ≤ 3270 + B := by
  have h := flagWords_sum (f := (n : Int) * 2 ^ p + share * 2 ^ 32) (B := B) (by rw [rest_share n p share hn hp]; exact hB)
  rw [flagWords_due n p share hn hp] at h
  have e := jl_len (due p n share)
  rw [← Spl.join_jl, ← Spl.len_list] at e
  have e : (Txt.join (Str.ofString ", ") (due p n share)).length ≤ _ := e
  omega
theorem dueB_len (p n : Nat) : (dueB p n).length ≤ 4 := by
  unfold dueB; rw [List.length_map]
  exact Nat.le_trans (List.length_filter_le _ _) (by simp)
theorem due_text (W : Law w A h₀ L cd mean mg mb) {p n D I B : Nat} {o o2 o3 : Obj} {tl : List (Addr × Obj)} {share : Int} {tn tp ts : Tok} {ys refs nvs : List Value} {nd nw nn : Nat}
    (F : Fr h₀ L s.heap m) (N : News h₀ L s.heap ((D, listOf ys.toArray nd) :: (I, o) :: (aw, listOf refs.toArray nw) :: tl)) (hy : StrsAre ys (due p n share)) (hp : p < 29) (hn : n < 16)
    (m1 : (L + 2, o2) ∈ tl) (m2 : (L + 3, o3) ∈ tl) (m3 : (an, listOf nvs.toArray nn) ∈ tl) (d2 : o2.data = .cell (some (.ref an))) (d3 : o3.data = .cell (some (.int n tn))) (hnv : StrsAre nvs (names4 p))
    (hDa : D ≠ aw) (hIa : I ≠ aw) (htl : ∀ q ∈ tl, q.1 ≠ aw) (hr : refs.length < 16)
    (S : Says m [(Str.ofString "due", .ref D), (Str.ofString "place", .int p tp), (Str.ofString "share", .int share ts), (Str.ofString "words", .ref aw)])
    (hB : (share * 2 ^ 32).natAbs < 2 ^ B) (hB2 : B ≤ 2000000)
    (hQ : ∀ h' tk t (a : Nat) vs n' nw', Fr h₀ L h' (fun z => if z = Str.ofString "text" then some t else m z) → News h₀ L h' ((I, o) :: (aw, listOf (refs ++ [Value.ref a]).toArray nw') :: (a, listOf vs.toArray n') :: tl) → StrsAre vs (wset p n) → aw < a → Q .next { s with heap := h', toks := tk }) :
    wpAny (model PP w) A (execs ((nth body7 3) :: (nth body7 4) :: (nth body7 5) :: []) (lawEnv L cd)) Q E s := by
  have X := W.X
  have T := W.T
  have hh := W.hh
  have TR := topRead_of T
  have F0 := F
  have F := fr_says F _ S
  dsimp only [kstB] at F
  clear F0
  have hp0 : (0 : Int) ≤ (p : Int) := by omega
  have hp1 : (p : Int) < 29 := by omega
  change wpAny _ _ (execs (Stmt.Assign _ _ _ :: Stmt.If _ _ _ _ :: Stmt.Expr _ _ :: []) (envX _ { kind := _, names := _ :: _, isGenerator := _, isCoroutine := _, more := _ } L _ _ _)) _ _ _
  walk_at "my steps"
  have e : ((n : Int) * 2 ^ (p : Int).toNat + share * 2 ^ Int.toNat 32) = (n : Int) * 2 ^ p + share * 2 ^ 32 := by rw [Int.toNat_natCast]; rfl
  obtain ⟨l1, l2, l3⟩ := text_len (share := share) hn hp hB
  rw [e]
  refine pf_call (X.keeps F.keep) (T.keeps F.keep) hh (by have := W.hroom; omega) (B := B) (by rw [rest_share n p share hn hp]; exact hB) hB2 (fun h4 tk4 t4 hk4 => ?_)
  rw [flagWords_due n p share hn hp]
  have F4 : Fr h₀ L h4 _ := ⟨F.ns.keeps hk4, fun b o e => hk4 b o (F.keep b o e), F.above⟩
  have N4 : News h₀ L h4 _ := fun q hq => ⟨hk4 _ _ (N q hq).1, (N q hq).2⟩
  clear F N e
  dsimp only
  walk_at "my steps"
  rename Fr _ _ _ _ => F5
  rename News _ _ _ _ => N5
  refine join_list (N5.isList (.head _)) hy (by have z3 : (Str.ofString ", ").length = 2 := by decide +kernel
                                                rw [z3]; omega) (fun t' k => ?_)
  walk_at "my steps"
  · rename_i q; simp at q
  refine comp_items (K := .str) (cl := [(Str.ofString "names", L + 2)]) (as := due p n share) (fun w => decide (w ∈ names4 p)) PyData.str F5 N5 hh (by with_unfolding_all rfl) (by decide) (by rfl) (by decide) (by rfl) (by intro x; with_unfolding_all rfl) (Nat.le_trans l2 (by decide)) ?_ ?_ ?_ ?_
  · intro Q' hQ'
    walk_at "my steps"
    refine KSpl.split1 F5 N5 (by decide +kernel) (fun D' l h' k e1 e2 F6 N6 l6 => ?_) (Nat.le_trans (Nat.add_le_add_right (Nat.le_trans l3 (Nat.add_le_add_left hB2 _)) 2) (by decide))
    rw [e1, due_split p n share hp] at e2
    exact hQ' h' k D' _ F6 (fun q hq => N6 q (.tail _ hq)) (N6.isList (.head _)) e2.areOf
  · intro h₁ C a v s₂ m₂ E' F6 N6 hk hv F7 hm
    obtain ⟨ta, rfl⟩ := ItemKind.str_is hv
    have g2 := (N6 _ (.tail _ (.tail _ (.tail _ m1)))).1
    have l3 : s₂.heap.IsList an nvs.toArray := ⟨_, F7.keep _ _ (N6 _ (.tail _ (.tail _ (.tail _ m3)))).1, rfl, _, rfl⟩
    refine wpAny_tests_one ?_
    walk_at "my steps"
    refine in_list_strs l3 hnv ?_
    walk_at "my steps"
    · rw [Bool.eq_iff_iff, List.any_eq_true, decide_eq_true_iff]
      exact ⟨fun ⟨x, hx, e⟩ => (eq_of_beq e) ▸ hx, fun h => ⟨a, h, beq_self_eq_true a⟩⟩
    · exact ⟨_, _, rfl, fun _ _ e => e⟩
  · intro h₁ C a v s₂ m₂ E' F6 N6 hk hv _ F7 hm
    obtain ⟨ta, rfl⟩ := ItemKind.str_is hv
    walk_at "my steps"
    · exact .str _ _
    · exact ⟨_, _, rfl, fun _ _ e => e⟩
  · intro D2 ys2 h6 tk6 n6 F6 N6 hc hne2
    have hw : StrsAre ys2 (dueB p n) := StrsAre.of_carried (by rw [← due_filter p n share hp]; exact hc)
    walk_at "my steps"
    refine sorted_N_str F6 N6 (N6.isList (.head _)) hw (by rw [hw.len_eq]; have := dueB_len p n; omega) (fun h7 vs7 ss7 e7 F7 N7 hs7 hp7 hsrt => ?_)
    have haw : aw < h6.objs.size := Heap.lt_size (N6 _ (.tail _ (.tail _ (.tail _ (.head _))))).1
    rw [wset_of hp7 hsrt] at hs7
    walk_at "my steps"
    refine append_x (pre := [(h6.objs.size + 1, _), (D2, _), (D, _), (I, o)]) (post := tl) F7 N7 ?_ htl (Nat.le_trans (Nat.le_of_lt hr) (by decide)) (fun h8 n8 F8 N8 => ?_)
    · refine List.forall_mem_cons.mpr ⟨?_, List.forall_mem_cons.mpr ⟨?_, List.forall_mem_cons.mpr ⟨hDa, List.forall_mem_cons.mpr ⟨hIa, List.forall_mem_nil _⟩⟩⟩⟩
      · exact fun q => absurd (show h6.objs.size + 1 = aw from q) (by omega)
      · exact Ne.symm (hne2 (aw, _) (.tail _ (.tail _ (.head _))))
    walk_at "my steps"
    refine hQ _ _ _ (h6.objs.size + 1) vs7 e7 n8 (fr_back _ S F8) (News.sub N8 ?_) hs7 (Nat.lt_succ_of_lt haw)
    intro q hq
    simp only [List.cons_append, List.nil_append, List.mem_cons] at hq ⊢
    rcases hq with rfl | rfl | rfl | hq
    · exact .inr (.inr (.inr (.inl rfl)))
    · exact .inr (.inr (.inr (.inr (.inl rfl))))
    · exact .inl rfl
    · exact .inr (.inr (.inr (.inr (.inr hq))))
end Mine
end
section
open PySem PySem.W PyProof.Rows PySem.Calls
set_option Elab.async false
set_option maxRecDepth 100000
set_option maxHeartbeats 4000000
namespace Mine
theorem offLaw7d : True := by
  w_top off
  exact True.intro
local macro_rules | `(tactic| walk_at "pad 13 0") => `(tactic| fail)
local macro_rules | `(tactic| walk_at "pad 13 1") => `(tactic| fail)
local macro_rules | `(tactic| walk_at "pad 13 2") => `(tactic| fail)
local macro_rules | `(tactic| walk_at "pad 13 3") => `(tactic| fail)
local macro_rules | `(tactic| walk_at "pad 13 4") => `(tactic| fail)
local macro_rules | `(tactic| walk_at "pad 13 5") => `(tactic| fail)
local macro_rules | `(tactic| walk_at "pad 13 6") => `(tactic| fail)
local macro_rules | `(tactic| walk_at "pad 13 7") => `(tactic| fail)
local macro_rules | `(tactic| walk_at "pad 13 8") => `(tactic| fail)
local macro_rules | `(tactic| walk_at "pad 13 9") => `(tactic| fail)
local macro_rules | `(tactic| walk_at "pad 13 10") => `(tactic| fail)
local macro_rules | `(tactic| walk_at "pad 13 11") => `(tactic| fail)
theorem fill_k8 (w : World) (h : Heap) : (Mine.hd.heap_39 w.params).In h → Challenge.rw_tv0007_01.row.prog = Challenge.rw_tv0007_01.row.prog := by
  k_fill
  intro _
  rfl
local macro_rules | `(tactic| walk_at "my steps") => `(tactic| repeat' (first | ((fail_if_success (with_reducible show wpAny _ _ (execs (List.drop _ _) _) _ _ _)); (fail_if_success (with_reducible show wpAny _ _ (execs (nth _ _ :: _) _) _ _ _)); (fail_if_success (with_reducible show wpAny _ _ (exec (Stmt.For _ _ _ _ _) _) _ _ _)); first | (k_unfold; (try dsimp only)) | (walk1 <;> (try dsimp only)) | (dsimp only; walk1) | (leave1; (try dsimp only)))))
variable {w : World} {A : Around} {E : Value → Shared → Prop} {Q : Flow → Shared → Prop} {s : Shared} {h₀ : Heap} {L an aw ac : Nat} {cd : Value × Addr} {mean : ExcName → Option Value} {mg mb m : Str → Option Value}
/-- the names that stand after statement 6 -/
abbrev says7 (ac aw : Nat) (p : Nat) (tp : Tok) (share : Int) (ts : Tok) : List (Str × Value) := [(Str.ofString "cells", .ref ac), (Str.ofString "place", .int p tp), (Str.ofString "share", .int share ts), (Str.ofString "words", .ref aw)]
def J7 (L ac aw p : Nat) (tp : Tok) (share : Int) (ts : Tok) (tl : List (Addr × Obj)) (i : Nat) (m : Str → Option Value) (news : List (Addr × Obj)) : Prop :=
  ∃ refs wsL nw o3 v3, news = (aw, listOf refs.toArray nw) :: (L + 3, o3) :: (wsL ++ tl) ∧ o3.data = .cell v3 ∧ refs.length = i ∧ WordsAt p refs wsL aw ∧ Says m (says7 ac aw p tp share ts)
theorem body7_turn (W : Law w A h₀ L cd mean mg mb) {p I i B : Nat} {o o2 o3 : Obj} {v3 : Option Value} {tl wsL : List (Addr × Obj)} {share : Int} {tp ts ti : Tok} {refs nvs : List Value} {nw nn : Nat} {s0 : Shared}
    (hs : ∃ h tk, s = { s0 with heap := h, toks := tk })
    (F : Fr h₀ L s.heap m) (N : News h₀ L s.heap ((I, o) :: (aw, listOf refs.toArray nw) :: (L + 3, o3) :: (wsL ++ tl))) (hp : p < 29) (hn : i < 16) (d3 : o3.data = .cell v3)
    (m1 : (L + 2, o2) ∈ tl) (m3 : (an, listOf nvs.toArray nn) ∈ tl) (d2 : o2.data = .cell (some (.ref an))) (hnv : StrsAre nvs (names4 p))
    (hI : I ≠ L + 3) (hIa : I ≠ aw) (haw : L + 6 < aw) (htl : ∀ q ∈ tl, q.1 ≠ aw ∧ q.1 ≠ L + 3) (hr : refs.length = i) (WA : WordsAt p refs wsL aw)
    (S : Says m (says7 ac aw p tp share ts)) (hB : (share * 2 ^ 32).natAbs < 2 ^ B) (hB2 : B ≤ 2000000) :
    wpAny (model PP w) A (assign (.Name (Str.ofString "number") pos) (lawEnv L cd) (.int i ti)) (fun _ s₂ => wpAny (model PP w) A (execs body7 (lawEnv L cd)) (fun f s₃ => match f with
        | .next | .cont => Turn h₀ L s0 (I, o) (J7 L ac aw p tp share ts tl (i + 1)) s₃
        | .brk => False
        | .ret _ => False) E s₂) E s := by
  obtain ⟨hp0, tk0, rfl⟩ := hs
  have hwsL : ∀ q ∈ wsL ++ tl, q.1 ≠ aw ∧ q.1 ≠ L + 3 := fun q hq => by
    rcases List.mem_append.mp hq with hq | hq
    · have h1 := WA.above q hq
      exact ⟨fun e => absurd (show (show Nat from q.1) = aw from e) (by omega), fun e => absurd (show (show Nat from q.1) = L + 3 from e) (by omega)⟩
    · exact htl q hq
  have haw3 : aw ≠ L + 3 := by omega
  refine store_cell (pre := [(I, o), (aw, listOf refs.toArray nw)]) (post := wsL ++ tl) F N (c := L + 3) (by rfl) (List.forall_mem_cons.mpr ⟨hI, List.forall_mem_cons.mpr ⟨haw3, List.forall_mem_nil _⟩⟩) (fun q hq => (hwsL q hq).2) d3 (by rfl) (by rfl) (fun h1 tk1 o3' F1 N1 d3' => ?_)
  change wpAny _ _ (execs (nth body7 0 :: nth body7 1 :: nth body7 2 :: nth body7 3 :: nth body7 4 :: nth body7 5 :: []) (lawEnv L cd)) _ _ _
  refine wpAny_execs_cons ?_
  have mt : ∀ q ∈ tl, q ∈ (I, o) :: (aw, listOf refs.toArray nw) :: (L + 3, o3') :: (wsL ++ tl) := fun q hq => .tail _ (.tail _ (.tail _ (List.mem_append_right _ hq)))
  refine due_comp W F1 N1 hp hn (mt _ m1) (.tail _ (.tail _ (.head _))) (mt _ m3) d2 d3' hnv (fun D ys h2 tk2 n2 F2 N2 hy hne => ?_)
  refine due_more W F2 N2 hy hne hp ⟨by rfl, S.2.2.1, trivial⟩ hB hB2 (fun h3 tk3 ys3 n3 F3 N3 hy3 => ?_)
  have Z := due_text (m := fun z => if z = Str.ofString "due" then some (Value.ref D) else m z) (Q := (fun f s₃ => match f with
        | .next | .cont => Turn h₀ L s0 (I, o) (J7 L ac aw p tp share ts tl (i + 1)) s₃
        | .brk => False
        | .ret _ => False)) (E := E) (s := { s0 with heap := h3, toks := tk3 }) (tl := (L + 3, o3') :: (wsL ++ tl)) W F3 N3 hy3 hp hn (.tail _ (List.mem_append_right _ m1)) (.head _) (.tail _ (List.mem_append_right _ m3)) d2 d3' hnv (Ne.symm (hne _ (.tail _ (.head _)))) hIa
    (List.forall_mem_cons.mpr ⟨Ne.symm haw3, fun q hq => (hwsL q hq).1⟩) (by omega) ⟨by rfl, S.2.1, S.2.2.1, S.2.2.2.1, trivial⟩ hB hB2 (fun h4 tk4 t4 a vs n4 nw4 F4 N4 hv4 ha4 => ?_)
  · exact Z
  · refine ⟨h4, tk4, _, _, rfl, F4, News.sub N4 (b := (I, o) :: ((aw, listOf (refs ++ [Value.ref a]).toArray nw4) :: (L + 3, o3') :: (((a, listOf vs.toArray n4) :: wsL) ++ tl))) ?_, refs ++ [.ref a], (a, listOf vs.toArray n4) :: wsL, nw4, o3', _, rfl, d3', by rw [List.length_append, hr]; rfl, WA.snoc (by rw [hr]; exact hv4) ha4, ?_⟩
    · intro q hq
      simp only [List.cons_append, List.mem_cons, List.mem_append] at hq ⊢
      rcases hq with rfl | rfl | rfl | rfl | hq
      · exact .inl rfl
      · exact .inr (.inl rfl)
      · exact .inr (.inr (.inr (.inl rfl)))
      · exact .inr (.inr (.inl rfl))
      · exact .inr (.inr (.inr (.inr hq)))
    · exact ⟨S.1, S.2.1, S.2.2.1, S.2.2.2.1, trivial⟩
def End7 (h₀ : Heap) (L : Nat) (ac aw p : Nat) (tp : Tok) (share : Int) (ts : Tok) (tl : List (Addr × Obj)) (s s' : Shared) : Prop :=
  ∃ h' tk m news, s' = { s with heap := h', toks := tk } ∧ Fr h₀ L h' m ∧ News h₀ L h' news ∧ J7 L ac aw p tp share ts tl 16 m news
theorem law7 (W : Law w A h₀ L cd mean mg mb) {p B : Nat} {o2 o3 : Obj} {v3 : Option Value} {tl : List (Addr × Obj)} {share : Int} {tp ts : Tok} {nvs : List Value} {nw nn : Nat}
    (F : Fr h₀ L s.heap m) (N : News h₀ L s.heap ((aw, listOf #[] nw) :: (L + 3, o3) :: tl)) (hp : p < 29) (d3 : o3.data = .cell v3)
    (m1 : (L + 2, o2) ∈ tl) (m3 : (an, listOf nvs.toArray nn) ∈ tl) (d2 : o2.data = .cell (some (.ref an))) (hnv : StrsAre nvs (names4 p))
    (haw : L + 6 < aw) (htl : ∀ q ∈ tl, (q.1 ≠ aw ∧ q.1 ≠ L + 3) ∧ ∀ f, q.2.data ≠ .fields f)
    (S : Says m (says7 ac aw p tp share ts)) (hB : (share * 2 ^ 32).natAbs < 2 ^ B) (hB2 : B ≤ 2000000)
    (hQ : ∀ s', End7 h₀ L ac aw p tp share ts tl s s' → wpAny (model PP w) A (execs (lawStmts.drop 8) (lawEnv L cd)) Q E s') :
    wpAny (model PP w) A (execs (lawStmts.drop 7) (lawEnv L cd)) Q E s := by
  have X := W.X
  have T := W.T
  have hh := W.hh
  have TR := topRead_of T
  change wpAny _ _ (execs (Stmt.For (.Name _ _) _ _ _ _ :: lawStmts.drop 8) (envX _ { kind := _, names := _ :: _, isGenerator := _, isCoroutine := _, more := _ } L _ _ _)) _ _ _
  refine wpAny_execs_cons (wpAny_mono (for_range (Q := fun f s' => f = .next ∧ End7 h₀ L ac aw p tp share ts tl s s') (h₀ := h₀) (L := L) (m₀ := m) (news₀ := (aw, listOf #[] nw) :: (L + 3, o3) :: tl) (a := 0) (b := 16) (n := 16) (J7 L ac aw p tp share ts tl) hh (by decide) (by decide) ?_ ?_ ?_ (by intro I v; rfl) (by intro x; with_unfolding_all rfl) ?_ ?_) ?_ (fun _ _ x => x))
  · rintro i m' news ⟨refs, wsL, nw', o3', v3', rfl, e1, _, WA, _⟩ q hq
    simp only [List.mem_cons, List.mem_append] at hq
    rcases hq with rfl | rfl | hq | hq
    · exact .inl (fun f e => by cases e)
    · exact .inl (fun f e => by rw [e1] at e; cases e)
    · exact .inl (WA.data q hq)
    · exact .inl (htl q hq).2
  · intro Q' hQ'
    walk_at "my steps"
    exact hQ' _ _ _ _ _ _ (by assumption) (by assumption) (by assumption)
  · exact ⟨[], [], nw, o3, v3, rfl, d3, rfl, .nil, S⟩
  · rintro I i t h tk m' news o E' hi ⟨refs, wsL, nw', o3', v3', rfl, e1, e2, WA, S'⟩ off F3 N3
    rw [Int.zero_add]
    have Z := fun pos => body7_turn (pos := pos) (E := E') (s := { s with heap := h, toks := tk }) (s0 := s) (ac := ac) (ti := t) W ⟨_, _, rfl⟩ F3 N3 hp hi e1 m1 m3 d2 hnv (Ne.symm (off _ (.tail _ (.head _)))) (Ne.symm (off _ (.head _))) haw (fun q hq => (htl q hq).1) e2 WA S' hB hB2
    refine wpAny_mono (Z _) (fun _ s₂ h₂ => wpAny_mono h₂ (fun f s₃ h₃ => ?_) (fun _ _ x => x)) (fun _ _ x => x)
    cases f with
    | next => exact h₃
    | cont => exact h₃
    | brk => exact h₃.elim
    | ret v => exact h₃.elim
  · intro h tk m' news E' hJ F3 N3
    exact wpAny_execs_nil ⟨rfl, h, tk, m', news, rfl, F3, N3, hJ⟩
  · rintro f s' ⟨rfl, h'⟩
    exact hQ s' h'
end Mine
end
section
open PySem PySem.W PyProof.Rows PySem.Calls PySem.Spec
set_option Elab.async false
set_option maxRecDepth 100000
set_option maxHeartbeats 4000000
namespace Mine
theorem offCompCell : True := by
  w_top off
  exact True.intro
section
variable {M : Model} {A : Around} {E : Value → Shared → Prop} {s : Shared}
theorem newEnv_cell {scope : Scope} {globals : Addr} {cl : List (Str × Addr)} {x qual : Str} {env : Env} {Q : Env → Shared → Prop}
    (hcf : ∀ a, cellsFrom a scope.names cl = (x, a) :: cl) (hpc : ∀ h, pushCells h scope.names = h.push { cls := .type "cell", data := .cell none })
    (hQ : Q (newEnv scope s.heap.objs.size globals ((x, s.heap.objs.size + 1) :: cl) qual none .none (some env) builtinsNs) { s with heap := (s.heap.push { cls := .type "dict", data := .dict #[] }).push { cls := .type "cell", data := .cell none } }) :
    wpAny M A (newFunctionEnv scope globals cl [] qual none .none (some env)) Q E s := by
  simp only [newFunctionEnv, Option.isSome_some, if_true]
  refine wpAny_bind (wpAny_alloc ?_)
  refine wpAny_bind (wpAny_layCells _ (fun name kind cells => by cases hkc : kind == NameKind.cell <;> simp [hkc]) _ _ _ _ ?_)
  rw [hcf, hpc]
  simp only [Heap.size_push]
  exact wpAny_bind (wpAny_pure (wpAny_pure hQ))
end
section
variable {prog : Program} {w : World} {A : Around} {E : Value → Shared → Prop} {s : Shared} {env : Env}
theorem comp_cell {elt iter : Expr} {x : Str} {px : Pos} {ifs : List Expr} {scope : Scope} {cl : List (Str × Addr)} {pos : Pos} {Q : Value → Shared → Prop} {ax : Addr} {vs : List Value} (pz : Value → Bool)
    (hh : A.handled = none) (hclos : closureFor scope env = pure cl) (hkind : scope.kind = .function)
    (hnames : ∀ y ∈ scope.names, y.2 = .local → scope.names.lookup y.1 = some .local)
    (hcf : ∀ a, cellsFrom a scope.names cl = (x, a) :: cl) (hpc : ∀ h, pushCells h scope.names = h.push { cls := .type "cell", data := .cell none })
    (hx : ∀ C c, (compEnvC scope c C env).kindOf x = some .cell)
    (hs : ∀ u, foldedSetIterable iter env u = pure u) (hsz : vs.length ≤ sizeLine) (hl : s.heap.IsList ax vs.toArray)
    (hiter : ∀ Q' : Value → Shared → Prop, (∀ tk, Q' (.ref ax) { s with toks := tk }) → wpAny (model prog w) A (eval iter env) Q' E s)
    (htest : ∀ C c o v s₂ m₂ tl E', v ∈ vs → Fr s.heap C s₂.heap m₂ → News s.heap C s₂.heap ((c, o) :: tl) → o.data = .cell (some v) → CTests prog w A ifs (compEnvC scope ((x, c) :: cl) C env) (fun ok s₃ => ok = pz v ∧ ∃ h' tk, s₃ = { s₂ with heap := h', toks := tk } ∧ Fr s.heap C h' m₂ ∧ News s.heap C h' ((c, o) :: tl)) E' s₂)
    (helt : ∀ C c o v (s₂ : Shared) m₂ E', v ∈ vs → s₂.heap.Ns C m₂ → s₂.heap.get? c = some o → o.data = .cell (some v) → wpAny (model prog w) A (eval elt (compEnvC scope ((x, c) :: cl) C env)) (fun z s₃ => z = v ∧ s₃ = s₂) E' s₂)
    (hQ : ∀ D h' tk n, (∀ b o, s.heap.get? b = some o → h'.get? b = some o) → s.heap.objs.size ≤ D → s.heap.get? D = none → h'.get? D = some (listOf (vs.filter pz).toArray n) → Q (.ref D) { s with heap := h', toks := tk }) :
    wpAny (model prog w) A (eval (.ListComp elt [⟨.Name x px, iter, ifs, 0⟩] scope pos) env) Q E s := by
  rw [eval_ListComp]
  refine wpAny_comprehension_free (use := none) rfl hs hclos hkind hnames (hiter _ fun tk₁ => wpAny_pyIter_list hl ?_)
  have hlt : ax < s.heap.objs.size := by obtain ⟨_, e, _⟩ := hl; exact Heap.lt_size e
  refine wpAny_newObj_type (newEnv_cell hcf hpc ?_)
  dsimp only
  generalize hH1 : s.heap.push { cls := .type "list_iterator", data := .fields #[.ref ax, .int 0 0] } = H1
  generalize hH2 : H1.push { cls := .type "list", dict := none, data := .seq ([] : List Value).toArray } = H2
  generalize hH3 : H2.push { cls := .type "dict", data := .dict #[] } = H3
  generalize hH4 : H3.push { cls := .type "cell", data := .cell none } = H4
  have z1 : H1.objs.size = s.heap.objs.size + 1 := by rw [← hH1, Heap.size_push]
  have z2 : H2.objs.size = s.heap.objs.size + 2 := by rw [← hH2, Heap.size_push, z1]
  have z3 : H3.objs.size = s.heap.objs.size + 3 := by rw [← hH3, Heap.size_push, z2]
  have g1 : ∀ b o, s.heap.get? b = some o → H1.get? b = some o := fun b o e => by rw [← hH1]; exact Heap.get?_push_of_some _ e
  have g2 : ∀ b o, H1.get? b = some o → H2.get? b = some o := fun b o e => by rw [← hH2]; exact Heap.get?_push_of_some _ e
  have g3 : ∀ b o, H2.get? b = some o → H3.get? b = some o := fun b o e => by rw [← hH3]; exact Heap.get?_push_of_some _ e
  have g4 : ∀ b o, H3.get? b = some o → H4.get? b = some o := fun b o e => by rw [← hH4]; exact Heap.get?_push_of_some _ e
  have old : ∀ b o, s.heap.get? b = some o → H4.get? b = some o := fun b o e => g4 b o (g3 b o (g2 b o (g1 b o e)))
  have hI : H4.IsListIter s.heap.objs.size ax 0 := ⟨_, g4 _ _ (g3 _ _ (g2 _ _ (by rw [← hH1]; exact Heap.get?_push_size _ rfl))), rfl, rfl⟩
  have hD : H4.PlainList H1.objs.size #[] := ⟨_, g4 _ _ (g3 _ _ (by rw [← hH2]; exact Heap.get?_push_size _ rfl))⟩
  have hN : H4.Ns H2.objs.size (fun _ => none) := Heap.Ns.keeps (by rw [← hH3]; exact Heap.Ns.new H2 (.type "dict")) g4
  have hc : H4.IsCell H3.objs.size none := ⟨_, by rw [← hH4]; exact Heap.get?_push_size _ rfl, rfl⟩
  have d01 : s.heap.objs.size ≠ H1.objs.size := by omega
  have d02 : s.heap.objs.size ≠ H2.objs.size := by omega
  have d03 : s.heap.objs.size ≠ H3.objs.size := by omega
  have d12 : H1.objs.size ≠ H2.objs.size := by omega
  have d13 : H1.objs.size ≠ H3.objs.size := by omega
  have d23 : H2.objs.size ≠ H3.objs.size := by omega
  have z3' : H2.objs.size + 1 = H3.objs.size := by rw [z3, z2]
  have lt0 : ∀ b o, s.heap.get? b = some o → b < s.heap.objs.size := fun b o e => Heap.lt_size e
  have ne0 : ∀ b o, s.heap.get? b = some o → b ≠ s.heap.objs.size := fun b o e => Nat.ne_of_lt (Heap.lt_size e)
  have ne1 : ∀ b o, s.heap.get? b = some o → b ≠ H1.objs.size := fun b o e => Nat.ne_of_lt (Nat.lt_of_lt_of_le (Heap.lt_size e) (by omega))
  have ne2 : ∀ b o, s.heap.get? b = some o → b ≠ H2.objs.size := fun b o e => Nat.ne_of_lt (Nat.lt_of_lt_of_le (Heap.lt_size e) (by omega))
  have ne3 : ∀ b o, s.heap.get? b = some o → b ≠ H3.objs.size := fun b o e => Nat.ne_of_lt (Nat.lt_of_lt_of_le (Heap.lt_size e) (by omega))
  have fresh : ∀ a, s.heap.objs.size ≤ a → s.heap.get? a = none := fun a ha => by
    cases e : s.heap.get? a with
    | none => rfl
    | some o' => exact absurd (Heap.lt_size e) (Nat.not_lt.mpr ha)
  have W := Walks.list (prog := prog) (w := w) hh s.heap.objs.size ax (Nat.ne_of_lt hlt) vs.toArray
  have loop : ∀ s₃ : Shared, (∃ tk, s₃ = { s with heap := H4, toks := tk }) →
      codeAny (model prog w) A (.compLoop (.ListComp elt [⟨.Name x px, iter, ifs, 0⟩] scope pos) 0 (.ref s.heap.objs.size) (.ref H1.objs.size) (compEnvC scope ((x, H2.objs.size + 1) :: cl) H2.objs.size env))
        (compPost (model prog w) A E none Q (.ref H1.objs.size) H2.objs.size) s₃ := by
    rintro s₃ ⟨tk0, rfl⟩
    refine codeAny_compLoop_tests (fun k s' => ∃ h' tk i m' cv, s' = { s with heap := h', toks := tk } ∧ i ≤ vs.length ∧ k = vs.length + 1 - i ∧ h'.IsListIter s.heap.objs.size ax i ∧ h'.PlainList H1.objs.size ((vs.take i).filter pz).toArray ∧ h'.Ns H2.objs.size m' ∧ h'.IsCell H3.objs.size cv ∧
      (∀ b o, s.heap.get? b = some o → h'.get? b = some o)) ?_ (vs.length + 1) ⟨H4, _, 0, _, _, rfl, Nat.zero_le _, rfl, hI, by simpa using hD, hN, hc, old⟩
    rintro k s' ⟨h', tk, i, m', cv, rfl, hi, rfl, hI', hD', hn', hc', hk'⟩
    have hlax : h'.IsList ax vs.toArray := hl.at fun o e => hk' _ o e
    by_cases hlti : i < vs.length
    · refine W.item i _ _ _ (by simpa using hlti) ⟨hI', hlax⟩ fun u h₂ tk₂ hu hst₂ hk₂ => ?_
      have hu' : vs[i]? = some u := by simpa using hu
      have hum : u ∈ vs := List.mem_of_getElem? hu'
      dsimp only
      have d : ∀ b o, b ≠ s.heap.objs.size → h'.get? b = some o → h₂.get? b = some o := fun b o hb e => hk₂ b o (by simp only [List.mem_singleton]; exact hb) e
      refine wpAny_assign_Name (wpAny_storeName_cell (c := H3.objs.size) (v₀ := cv) (by simp [compEnvC, relabel, hkind]) (hx _ _) (by show List.lookup x ((x, H2.objs.size + 1) :: cl) = _; rw [z3']; simp) ?_ (fun h₃ hc₃ hs₃ => ?_))
      · obtain ⟨oc, e1, e2⟩ := hc'
        exact ⟨oc, d _ _ (Ne.symm d03) e1, e2⟩
      have keep3 : ∀ b o, s.heap.get? b = some o → h₃.get? b = some o := fun b o e => hs₃.extBut b o (ne3 b o e) (d b o (ne0 b o e) (hk' b o e))
      have hI3 : h₃.IsListIter s.heap.objs.size ax (i + 1) := hst₂.1.at fun o e => hs₃.extBut _ o d03 e
      have hD3 : h₃.PlainList H1.objs.size ((vs.take i).filter pz).toArray := hD'.at fun o e => hs₃.extBut _ o d13 (d _ o (Ne.symm d01) e)
      have hn3 : h₃.Ns H2.objs.size m' := hn'.at' fun o e => hs₃.extBut _ o d23 (d _ o (Ne.symm d02) e)
      obtain ⟨oc, ec, dc⟩ := hc₃
      have hcz : s.heap.get? H3.objs.size = none := fresh _ (by omega)
      obtain ⟨oI, eI, rI⟩ := id hI3
      obtain ⟨nD3, eD⟩ := id hD3
      have N3 : News s.heap H2.objs.size h₃ [(H2.objs.size + 1, oc), (s.heap.objs.size, oI), (H1.objs.size, { cls := .type "list", dict := none, data := .seq ((vs.take i).filter pz).toArray nD3 })] :=
        List.forall_mem_cons.mpr ⟨⟨by rw [z3']; exact ec, by rw [z3']; exact Ne.symm d23, by rw [z3']; exact hcz⟩, List.forall_mem_cons.mpr ⟨⟨eI, d02, fresh _ (Nat.le_refl _)⟩, List.forall_mem_cons.mpr ⟨⟨eD, d12, fresh _ (by omega)⟩, List.forall_mem_nil _⟩⟩⟩
      refine wpAny_mono (htest H2.objs.size (H2.objs.size + 1) oc u _ m' _ _ hum ⟨hn3, keep3, by omega⟩ N3 dc) (fun ok s₄ h₄ => ?_) fun _ _ q => q
      obtain ⟨rfl, h₅, tk₅, rfl, F5, N5⟩ := h₄
      have hI5 : h₅.IsListIter s.heap.objs.size ax (i + 1) := ⟨oI, (N5 _ (.tail _ (.head _))).1, rI⟩
      have hD5 : h₅.PlainList H1.objs.size ((vs.take i).filter pz).toArray := ⟨nD3, (N5 _ (.tail _ (.tail _ (.head _)))).1⟩
      have hn5 : h₅.Ns H2.objs.size m' := F5.ns
      have ec5 : h₅.get? H3.objs.size = some oc := by have := (N5 _ (.head _)).1; rw [z3'] at this; exact this
      have e2 : (vs.take (i + 1)).filter pz = (vs.take i).filter pz ++ (if pz u then [u] else []) := by
        rw [List.take_add_one, hu', List.filter_append]
        by_cases hpu : pz u = true
        · simp [hpu]
        · simp [hpu]
      by_cases hpu : pz u = true
      · rw [if_pos hpu]
        rw [if_pos hpu] at e2
        refine wpAny_mono (helt H2.objs.size (H2.objs.size + 1) oc u _ m' _ hum hn5 (by rw [z3']; exact ec5) dc) (fun z s₆ hz => ?_) fun _ _ q => q
        obtain ⟨rfl, rfl⟩ := hz
        have hsz' : ((vs.take i).filter pz).length ≤ sizeLine := Nat.le_trans (List.length_filter_le _ _) (Nat.le_trans (List.length_take_le _ _) (by omega))
        refine wpAny_list_append_plain (hsz := by simpa using hsz') hD5 fun h₇ hl₇ hs₇ => ?_
        refine ⟨vs.length + 1 - (i + 1), by omega, h₇, tk₅, i + 1, m', _, rfl, hlti, rfl, hI5.at fun o e => hs₇.extBut _ o d01 e, ?_, hn5.sameBut hs₇ (Ne.symm d12), ⟨oc, hs₇.extBut _ _ (Ne.symm d13) ec5, dc⟩, fun b o e => hs₇.extBut b o (ne1 b o e) (F5.keep b o e)⟩
        rw [e2]
        rw [List.push_toArray] at hl₇
        exact hl₇
      · rw [if_neg hpu]
        rw [if_neg hpu, List.append_nil] at e2
        refine ⟨vs.length + 1 - (i + 1), by omega, h₅, tk₅, i + 1, m', _, rfl, hlti, rfl, hI5, ?_, hn5, ⟨oc, ec5, dc⟩, fun b o e => F5.keep b o e⟩
        rw [e2]; exact hD5
    · obtain rfl : i = vs.length := by omega
      refine W.done _ _ _ ⟨by simpa using hI', hlax⟩ fun h₂ tk₂ hk₂ => ?_
      dsimp only
      have d : ∀ b o, b ≠ s.heap.objs.size → h'.get? b = some o → h₂.get? b = some o := fun b o hb e => hk₂ b o (by simp only [List.mem_singleton]; exact hb) e
      refine ⟨m', hn'.at' fun o e => d _ o (Ne.symm d02) e, fun h'' hs'' => ?_⟩
      obtain ⟨nD, heD⟩ := hD'
      rw [List.take_length] at heD
      exact hQ _ _ _ nD (fun b o e => hs''.extBut b o (ne2 b o e) (d b o (ne0 b o e) (hk' b o e))) (by omega) (fresh _ (by omega)) (hs''.extBut _ _ d12 (d _ _ (Ne.symm d01) heD))
  refine codeAny_compStart_list (loop _ ⟨_, rfl⟩) (W.self 0 _ _ _ ⟨hI, hl.at fun o e => old _ o e⟩ (loop _ ⟨_, rfl⟩))
end
end Mine
end
section
open PySem PySem.W PyProof.Rows PySem.Calls
set_option Elab.async false
set_option maxRecDepth 100000
set_option maxHeartbeats 4000000
namespace Mine
theorem offRow1 : True := by
  w_top off
  exact True.intro
local macro_rules | `(tactic| walk_at "pad 14 0") => `(tactic| fail)
local macro_rules | `(tactic| walk_at "pad 14 1") => `(tactic| fail)
local macro_rules | `(tactic| walk_at "pad 14 2") => `(tactic| fail)
local macro_rules | `(tactic| walk_at "pad 14 3") => `(tactic| fail)
local macro_rules | `(tactic| walk_at "pad 14 4") => `(tactic| fail)
local macro_rules | `(tactic| walk_at "pad 14 5") => `(tactic| fail)
local macro_rules | `(tactic| walk_at "pad 14 6") => `(tactic| fail)
local macro_rules | `(tactic| walk_at "pad 14 7") => `(tactic| fail)
local macro_rules | `(tactic| walk_at "pad 14 8") => `(tactic| fail)
local macro_rules | `(tactic| walk_at "pad 14 9") => `(tactic| fail)
local macro_rules | `(tactic| walk_at "pad 14 10") => `(tactic| fail)
local macro_rules | `(tactic| walk_at "pad 14 11") => `(tactic| fail)
theorem fill_k9 (w : World) (h : Heap) : (Mine.hd.heap_39 w.params).In h → Challenge.rw_tv0007_01.row.prog = Challenge.rw_tv0007_01.row.prog := by
  k_fill
  intro _
  rfl
local macro_rules | `(tactic| walk_at "my steps") => `(tactic| repeat' (first | ((fail_if_success (with_reducible show wpAny _ _ (execs (List.drop _ _) _) _ _ _)); (fail_if_success (with_reducible show wpAny _ _ (execs (nth _ _ :: _) _) _ _ _)); (fail_if_success (with_reducible show wpAny _ _ (exec (Stmt.For _ _ _ _ _) _) _ _ _)); (fail_if_success (with_reducible show wpAny _ _ (eval (Expr.ListComp _ _ _ _) _) _ _ _)); (fail_if_success (with_reducible show wpAny _ _ (call (Value.ref _) _) _ _ _)); (fail_if_success (with_reducible show wpAny _ _ (compareOp _ (Value.ref _) (Value.ref _)) _ _ _)); first | (k_unfold; (try dsimp only)) | (walk1 <;> (try dsimp only)) | (dsimp only; walk1) | (leave1; (try dsimp only)))))
local macro_rules | `(tactic| walk_at "eval Name") => `(tactic| (first
  | ((with_reducible show wpAny _ _ (eval (Expr.Name (Str.ofString "one") _) (compEnvC _ _ _ _)) _ _ _); k_dflt (refine' c_local ?F ?v ?_ ?k ?x ?b; (case x => rfl); (case k => rfl); (case b => decide); (case F => assumption); (case v => assumption)))
  | ((with_reducible show wpAny _ _ (eval (Expr.Name (Str.ofString "cell") _) (compEnvC _ _ _ _)) _ _ _); k_dflt (refine' c_cell ?F ?c ?m ?d ?_ ?k ?x ?b; (case x => rfl); (case k => rfl); (case b => decide); (case c => rfl); (case F => assumption); (case m => assumption); (case d => assumption)))))
def kN : ItemKind Nat := ⟨fun a v => ∃ t, v = .int (a : Int) t, fun v => match v with | .int a _ => some a.toNat | _ => none, fun _ _ h => by obtain ⟨t, rfl⟩ := h; simp⟩
abbrev nI (l : List Nat) : List Int := l.map fun n : Nat => (n : Int)
theorem areOf_nI {ns : List Nat} : ∀ {vs : List Value}, IntsAre vs (nI ns) → AreOf kN vs ns := by
  induction ns with
  | nil => intro vs h; cases h; exact .nil
  | cons n ns ih => intro vs h; cases h with | cons _ t h => exact .cons ⟨t, rfl⟩ (ih h)
theorem ints_of_carried : ∀ {vs : List Value} {ns : List Int}, CarriedAll vs (ns.map PyData.int) → IntsAre vs ns
  | [], [], _ => .nil
  | v :: vs, n :: ns, .cons h r => by
    cases h with
    | int => exact .cons n _ (ints_of_carried r)
theorem xor16 : ∀ a : Nat, a < 16 → ∀ b : Nat, b < 16 → Builtin.bitXor (a : Int) (b : Int) = ((a ^^^ b : Nat) : Int) ∧ a ^^^ b < 16 := by decide +kernel
def cellN (ct : Int) : Nat := (ct.fmod 16).toNat
theorem cellN_lt (ct : Int) : cellN ct < 16 := by
  have h1 := Int.fmod_lt_of_pos ct (b := 16) (by decide)
  have h2 := Int.fmod_nonneg_of_pos ct (b := 16) (by decide)
  unfold cellN; omega
theorem cellN_eq (ct : Int) : ct.fmod 16 = (cellN ct : Int) := by
  have h2 := Int.fmod_nonneg_of_pos ct (b := 16) (by decide)
  unfold cellN; omega
variable {w : World} {A : Around} {E : Value → Shared → Prop} {Q : Flow → Shared → Prop} {s : Shared} {h₀ : Heap} {L an : Nat} {cd : Value × Addr} {mean : ExcName → Option Value} {mg mb m : Str → Option Value}
noncomputable abbrev body10 : List Stmt := sBody (nth lawStmts 10)
theorem new_comp (W : Law w A h₀ L cd mean mg mb) {news : List (Addr × Obj)} {rvs : List Value} {row : List Nat} {ar nr : Nat} {o5 : Obj} {ct : Int} {tc : Tok}
    (F : Fr h₀ L s.heap m) (N : News h₀ L s.heap news) (m5 : (L + 5, o5) ∈ news) (d5 : o5.data = .cell (some (.int ct tc))) (mr : (ar, listOf rvs.toArray nr) ∈ news) (hr : IntsAre rvs (nI row)) (hlen : row.length ≤ 16) (hlt : ∀ x ∈ row, x < 16)
    (S : Says m [(Str.ofString "row", .ref ar)])
    (hQ : ∀ D ys h' tk n', Fr h₀ L h' (fun z => if z = Str.ofString "new" then some (.ref D) else m z) → News h₀ L h' ((D, listOf ys.toArray n') :: news) → IntsAre ys (nI (row.map (· ^^^ cellN ct))) → (∀ q ∈ news, q.1 ≠ D) → Q .next { s with heap := h', toks := tk }) :
    wpAny (model PP w) A (exec (nth body10 0) (lawEnv L cd)) Q E s := by
  have X := W.X
  have T := W.T
  have hh := W.hh
  have TR := topRead_of T
  have F0 := F
  have F := fr_says F _ S
  dsimp only [kstB] at F
  change wpAny _ _ (exec (.Assign [.Name _ _] (.ListComp _ [⟨.Name _ _, _, _, 0⟩] _ _) _) (envX _ { kind := _, names := _ :: _, isGenerator := _, isCoroutine := _, more := _ } L _ _ _)) _ _ _
  refine comp_items_to (K := kN) (cl := [(Str.ofString "cell", L + 5)]) (as := row) (fun _ => true) (fun k => PyData.int ((k ^^^ cellN ct : Nat) : Int)) F N (by with_unfolding_all rfl) rfl hh (by with_unfolding_all rfl) (by decide) (by rfl) (by decide) (by rfl) (by rfl) (by rfl) (by intro x; with_unfolding_all rfl) (Nat.le_trans hlen (by decide)) ?_ ?_ ?_ ?_
  · intro Q' hQ'
    walk_at "my steps"
    exact hQ' _ _ _ _ F N ⟨_, (N _ mr).1, rfl, _, rfl⟩ (areOf_nI hr)
  · intro h₁ C a v s₂ m₂ E' F1 N1 hk hv F2 hm
    exact wpAny_tests_nil ⟨rfl, s₂.heap, s₂.toks, rfl, fun _ _ e => e⟩
  · intro h₁ C a v s₂ m₂ E' F1 N1 hk hv _ F2 hm
    obtain ⟨ta, rfl⟩ := hv
    have g5 := (N1 _ m5).1
    walk_at "my steps"
    · rw [cellN_eq, (xor16 a (hlt a hk) _ (cellN_lt ct)).1]
      exact .int _ _
    · exact ⟨_, _, rfl, fun _ _ e => e⟩
  · intro D ys h' tk n' F3 N3 hc hne
    refine hQ D ys h' tk n' (fr_back _ S F3) N3 (ints_of_carried ?_) hne
    have e : (List.filter (fun _ => true) row).map (fun k => PyData.int ((k ^^^ cellN ct : Nat) : Int)) = (nI (row.map (· ^^^ cellN ct))).map PyData.int := by
      rw [List.filter_eq_self.mpr (fun _ _ => rfl), List.map_map, List.map_map]; rfl
    rw [← e]; exact hc
end Mine
end
section
open PySem PySem.W PyProof.Rows PySem.Calls
set_option Elab.async false
set_option maxRecDepth 100000
set_option maxHeartbeats 4000000
namespace Mine
theorem offRow2 : True := by
  w_top off
  exact True.intro
local macro_rules | `(tactic| walk_at "pad 15 0") => `(tactic| fail)
local macro_rules | `(tactic| walk_at "pad 15 1") => `(tactic| fail)
local macro_rules | `(tactic| walk_at "pad 15 2") => `(tactic| fail)
local macro_rules | `(tactic| walk_at "pad 15 3") => `(tactic| fail)
local macro_rules | `(tactic| walk_at "pad 15 4") => `(tactic| fail)
local macro_rules | `(tactic| walk_at "pad 15 5") => `(tactic| fail)
local macro_rules | `(tactic| walk_at "pad 15 6") => `(tactic| fail)
local macro_rules | `(tactic| walk_at "pad 15 7") => `(tactic| fail)
local macro_rules | `(tactic| walk_at "pad 15 8") => `(tactic| fail)
local macro_rules | `(tactic| walk_at "pad 15 9") => `(tactic| fail)
local macro_rules | `(tactic| walk_at "pad 15 10") => `(tactic| fail)
local macro_rules | `(tactic| walk_at "pad 15 11") => `(tactic| fail)
local macro_rules | `(tactic| walk_at "pad 15 12") => `(tactic| fail)
theorem fill_k10 (w : World) (h : Heap) : (Mine.hd.heap_39 w.params).In h → Challenge.rw_tv0007_01.row.prog = Challenge.rw_tv0007_01.row.prog := by
  k_fill
  intro _
  rfl
local macro_rules | `(tactic| walk_at "my steps") => `(tactic| repeat' (first | ((fail_if_success (with_reducible show wpAny _ _ (execs (List.drop _ _) _) _ _ _)); (fail_if_success (with_reducible show wpAny _ _ (execs (nth _ _ :: _) _) _ _ _)); (fail_if_success (with_reducible show wpAny _ _ (exec (Stmt.For _ _ _ _ _) _) _ _ _)); (fail_if_success (with_reducible show wpAny _ _ (eval (Expr.ListComp _ _ _ _) _) _ _ _)); (fail_if_success (with_reducible show wpAny _ _ (call (Value.ref _) _) _ _ _)); (fail_if_success (with_reducible show wpAny _ _ (compareOp _ (Value.ref _) (Value.ref _)) _ _ _)); first | (k_unfold; (try dsimp only)) | (walk1 <;> (try dsimp only)) | (dsimp only; walk1) | (leave1; (try dsimp only)))))
local macro_rules | `(tactic| walk_at "eval Name") => `(tactic| (first
  | ((with_reducible show wpAny _ _ (eval (Expr.Name (Str.ofString "c") _) (compEnvC _ _ _ _)) _ _ _); k_dflt (refine' c_local ?F ?v ?_ ?k ?x ?b; (case x => rfl); (case k => rfl); (case b => decide); (case F => assumption); (case v => assumption)))
  | ((first | (with_reducible show wpAny _ _ (eval (Expr.Name (Str.ofString "one") _) (compEnvC _ _ _ _)) _ _ _) | (with_reducible show wpAny _ _ (eval (Expr.Name (Str.ofString "let") _) (compEnvC _ _ _ _)) _ _ _) | (with_reducible show wpAny _ _ (eval (Expr.Name (Str.ofString "code") _) (compEnvC _ _ _ _)) _ _ _)); k_dflt (refine' c_cell ?F ?c ?m ?d ?_ ?k ?x ?b; (case x => rfl); (case k => rfl); (case b => decide); (case c => rfl); (case F => assumption); (case m => assumption); (case d => assumption)))))
def sValue : Stmt → Expr
  | .Assign _ v _ => v
  | _ => .Constant .none 0 default
def letP (lt : Int) (d : Nat) : Bool := decide ((d : Int) ≠ 0) && decide (lt / 2 ^ d % 2 = 1)
theorem letP_zero (lt : Int) : letP lt 0 = false := rfl
def pzv (P : Nat → Bool) (code : List Nat) (v : Value) : Bool := match v with
  | .int n _ => Lex.ok P code n.toNat
  | _ => false
theorem ints_filter {P : Nat → Bool} {code : List Nat} : ∀ {new : List Nat} {vs : List Value}, IntsAre vs (nI new) → IntsAre (vs.filter (pzv P code)) (nI (new.filter (Lex.ok P code))) := by
  intro new
  induction new with
  | nil => intro vs h; cases h; exact .nil
  | cons n ns ih =>
    intro vs h
    cases h with
    | cons _ t h =>
      have e : pzv P code (.int (n : Int) t) = Lex.ok P code n := by unfold pzv; simp
      rw [List.filter_cons, List.filter_cons, e]
      split
      · exact .cons _ t (ih h)
      · exact ih h
theorem ints_mem {new : List Nat} : ∀ {vs : List Value}, IntsAre vs (nI new) → ∀ v ∈ vs, ∃ a t, a ∈ new ∧ v = .int (a : Nat) t := by
  induction new with
  | nil => intro vs h v hv; cases h; cases hv
  | cons n ns ih =>
    intro vs h v hv
    cases h with
    | cons _ t h =>
      rcases List.mem_cons.mp hv with rfl | hv
      · exact ⟨n, t, .head _, rfl⟩
      · obtain ⟨a, t', h1, h2⟩ := ih h v hv
        exact ⟨a, t', .tail _ h1, h2⟩
theorem ok_filter {P : Nat → Bool} {code : List Nat} {a : Nat} : decide (nI (code.filter fun x => !P (x ^^^ a)) = ([] : List Int)) = Lex.ok P code a := by
  unfold Lex.ok
  rw [Bool.eq_iff_iff, decide_eq_true_iff, List.map_eq_nil_iff, List.filter_eq_nil_iff, List.all_eq_true]
  simp
variable {w : World} {A : Around} {E : Value → Shared → Prop} {s : Shared} {h₀ : Heap} {L an : Nat} {cd : Value × Addr} {mean : ExcName → Option Value} {mg mb m : Str → Option Value}
theorem good_eval (W : Law w A h₀ L cd mean mg mb) {Q : Value → Shared → Prop} {news : List (Addr × Obj)} {nvs cvs : List Value} {new code : List Nat} {anw nnw acd ncd : Nat} {o1 o4 : Obj} {lt : Int} {tl : Tok}
    (F : Fr h₀ L s.heap m) (N : News h₀ L s.heap news) (m1 : (L + 1, o1) ∈ news) (d1 : o1.data = .cell (some (.int lt tl))) (m4 : (L + 4, o4) ∈ news) (d4 : o4.data = .cell (some (.ref acd)))
    (mcd : (acd, listOf cvs.toArray ncd) ∈ news) (hc : IntsAre cvs (nI code)) (mnw : (anw, listOf nvs.toArray nnw) ∈ news) (hn : IntsAre nvs (nI new))
    (hcl : code.length ≤ 16) (hnl : new.length ≤ 16) (hcx : ∀ x ∈ code, x < 16) (hnx : ∀ x ∈ new, x < 16) (hlt0 : 0 ≤ lt) (hlt1 : lt < 65536)
    (S : Says m [(Str.ofString "new", .ref anw)])
    (hQ : ∀ D ys h' tk n', Fr h₀ L h' m → News h₀ L h' ((D, listOf ys.toArray n') :: news) → IntsAre ys (nI (new.filter (Lex.ok (letP lt) code))) → (∀ q ∈ news, q.1 ≠ D) → Q (.ref D) { s with heap := h', toks := tk }) :
    wpAny (model PP w) A (eval (sValue (nth body10 1)) (lawEnv L cd)) Q E s := by
  have X := W.X
  have T := W.T
  have hh := W.hh
  have TR := topRead_of T
  have F0 := F
  have F := fr_says F _ S
  dsimp only [kstB] at F
  have hnlen : nvs.length = new.length := by have := hn.length; simpa using this
  change wpAny _ _ (eval (.ListComp _ [⟨.Name _ _, _, _, 0⟩] _ _) (envX _ { kind := _, names := _ :: _, isGenerator := _, isCoroutine := _, more := _ } L _ _ _)) _ _ _
  refine comp_cell (cl := [(Str.ofString "let", L + 1), (Str.ofString "code", L + 4)]) (vs := nvs) (ax := anw) (pzv (letP lt) code) hh (by with_unfolding_all rfl) (by rfl) (by decide) (by intro a; rfl) (by intro h; rfl) (by intro C c; rfl) (by intro x; with_unfolding_all rfl) (by rw [hnlen]; exact Nat.le_trans hnl (by decide)) ⟨_, (N _ mnw).1, rfl, _, rfl⟩ ?_ ?_ ?_ ?_
  · intro Q' hQ'
    walk_at "my steps"
    exact hQ' _
  · intro C c o v s₂ m₂ tl E' hv F1 N1 hd
    obtain ⟨a, ta, ha, rfl⟩ := ints_mem hn v hv
    have X1 := X.keeps F.keep
    have T1 := T.keeps F.keep
    have TR1 := topRead_of T1
    refine wpAny_tests_one ?_
    walk_at "my steps"
    refine comp_items (K := kN) (cl := [(Str.ofString "one", c), (Str.ofString "let", L + 1)]) (as := code) (fun x => !letP lt (x ^^^ a)) (fun x => PyData.int (x : Nat)) F1 N1 hh (by with_unfolding_all rfl) (by decide) (by rfl) (by decide) (by rfl) (by intro x; with_unfolding_all rfl) (Nat.le_trans hcl (by decide)) ?_ ?_ ?_ ?_
    · intro Q' hQ'
      have g4 := (N _ m4).1
      walk_at "my steps"
      exact hQ' s₂.heap s₂.toks acd _ F1 N1 ⟨_, F1.keep _ _ (N _ mcd).1, rfl, _, rfl⟩ (areOf_nI hc)
    · intro h₁ C' x v' s₃ m₃ E3 F2 N2 hk hv' F3 hm3
      obtain ⟨tx, rfl⟩ := hv'
      have X2 := X1.keeps F2.keep
      have T2 := T1.keeps F2.keep
      have TR2 := topRead_of T2
      have g1 := F2.keep _ _ (N _ m1).1
      have gc := (N2 _ (.head _)).1
      refine wpAny_tests_one ?_
      walk_at "my steps"
      have hxx := xor16 a (hnx a ha) x (hcx x hk)
      rw [hxx.1]
      refine is_let_call (X2.keeps F3.keep) (T2.keeps F3.keep) hh (by have := W.hroom; omega) hlt0 hlt1 (by omega) (by have := hxx.2; omega) (fun h' tk b hkb hb => ?_)
      rw [Int.toNat_natCast] at hb
      walk_at "my steps"
      · rw [hb, Nat.xor_comm a x]; rfl
      · exact ⟨_, _, rfl, hkb⟩
    · intro h₁ C' x v' s₃ m₃ E3 F2 N2 hk hv' _ F3 hm3
      obtain ⟨tx, rfl⟩ := hv'
      walk_at "my steps"
      · exact .int _ _
      · exact ⟨_, _, rfl, fun _ _ e => e⟩
    · intro D ys h' tk n' F3 N3 hc3 hne
      walk_at "my steps"
      rename Fr _ _ _ _ => F4
      rename News _ _ _ _ => N4
      have hys : IntsAre ys (nI (code.filter fun x => !letP lt (x ^^^ a))) := ints_of_carried (by rw [List.map_map]; exact hc3)
      refine ke_eq_ints (N4.isList (.tail _ (.head _))) (N4.isList (.head _)) hys .nil W.hun ?_
      rw [ok_filter]
      walk_at "my steps"
      all_goals first | exact F4 | exact News.sub N4 (fun p hp => .tail _ (.tail _ hp)) | (unfold pzv; simp)
  · intro C c o v s₂ m₂ E' hv hns hc2 hd
    obtain ⟨a, ta, ha, rfl⟩ := ints_mem hn v hv
    refine wpAny_Name (wpAny_loadName_cell (by rfl) (by rfl) (by rfl) ⟨o, hc2, hd⟩ ⟨rfl, rfl⟩) (by decide)
  · intro D h' tk n hk hD hf hg
    obtain ⟨F', N'⟩ := plain_keep F N hk hf hg
    exact hQ D _ h' tk n (fr_unsay S F') N' (ints_filter hn) (fun q hq e => by rw [← e, (N q hq).1] at hf; cases hf)
end Mine
end
section
open PySem PySem.W PyProof.Rows PySem.Calls
set_option Elab.async false
set_option maxRecDepth 100000
set_option maxHeartbeats 4000000
namespace Mine
theorem offRow3 : True := by
  w_top off
  exact True.intro
local macro_rules | `(tactic| walk_at "pad 16 0") => `(tactic| fail)
local macro_rules | `(tactic| walk_at "pad 16 1") => `(tactic| fail)
local macro_rules | `(tactic| walk_at "pad 16 2") => `(tactic| fail)
local macro_rules | `(tactic| walk_at "pad 16 3") => `(tactic| fail)
local macro_rules | `(tactic| walk_at "pad 16 4") => `(tactic| fail)
local macro_rules | `(tactic| walk_at "pad 16 5") => `(tactic| fail)
local macro_rules | `(tactic| walk_at "pad 16 6") => `(tactic| fail)
local macro_rules | `(tactic| walk_at "pad 16 7") => `(tactic| fail)
local macro_rules | `(tactic| walk_at "pad 16 8") => `(tactic| fail)
local macro_rules | `(tactic| walk_at "pad 16 9") => `(tactic| fail)
local macro_rules | `(tactic| walk_at "pad 16 10") => `(tactic| fail)
local macro_rules | `(tactic| walk_at "pad 16 11") => `(tactic| fail)
local macro_rules | `(tactic| walk_at "pad 16 12") => `(tactic| fail)
local macro_rules | `(tactic| walk_at "pad 16 13") => `(tactic| fail)
theorem fill_k11 (w : World) (h : Heap) : (Mine.hd.heap_39 w.params).In h → Challenge.rw_tv0007_01.row.prog = Challenge.rw_tv0007_01.row.prog := by
  k_fill
  intro _
  rfl
local macro_rules | `(tactic| k_mem) => `(tactic| with_reducible assumption)
local macro_rules | `(tactic| k_all) => `(tactic| with_reducible assumption)
local macro_rules | `(tactic| walk_at "my steps") => `(tactic| repeat' (first | ((fail_if_success (with_reducible show wpAny _ _ (execs (List.drop _ _) _) _ _ _)); (fail_if_success (with_reducible show wpAny _ _ (execs (nth _ _ :: _) _) _ _ _)); (fail_if_success (with_reducible show wpAny _ _ (exec (Stmt.For _ _ _ _ _) _) _ _ _)); (fail_if_success (with_reducible show wpAny _ _ (eval (Expr.ListComp _ _ _ _) _) _ _ _)); (fail_if_success (with_reducible show wpAny _ _ (call (Value.ref _) _) _ _ _)); (fail_if_success (with_reducible show wpAny _ _ (compareOp _ (Value.ref _) (Value.ref _)) _ _ _)); (fail_if_success (with_reducible show wpAny _ _ (binaryOp _ (Value.ref _) (Value.ref _)) _ _ _)); (fail_if_success (with_reducible show wpAny _ _ (assign (Expr.Name (Str.ofString "code") _) _ _) _ _ _)); (fail_if_success (with_reducible show wpAny _ _ (storeName _ (Str.ofString "code") _) _ _ _)); (fail_if_success (with_reducible show wpAny _ _ (assign (Expr.Name (Str.ofString "good") _) _ _) _ _ _)); (fail_if_success (with_reducible show wpAny _ _ (storeName _ (Str.ofString "good") _) _ _ _)); first | (k_unfold; (try dsimp only)) | (walk1 <;> (try dsimp only)) | (dsimp only; walk1) | (leave1; (try dsimp only)))))
local macro_rules | `(tactic| walk_at "eval Name") => `(tactic| (first
  | ((with_reducible show wpAny _ _ (eval (Expr.Name (Str.ofString "code") _) (envX _ _ _ _ _ _)) _ _ _); k_dflt (refine' nameX_C (c := _ + 4) ?N ?c ?m ?d ?_ ?a ?b; (case c => rfl); (case a => rfl); (case b => rfl); (case N => assumption); (case m => repeat (first | assumption | exact List.Mem.head _ | refine List.Mem.tail _ ?_)); (case d => assumption)))
  | ((with_reducible show wpAny _ _ (eval (Expr.Name (Str.ofString "good") _) (envX _ _ _ _ _ _)) _ _ _); k_dflt (refine' nameX_C (c := _ + 6) ?N ?c ?m ?d ?_ ?a ?b; (case c => rfl); (case a => rfl); (case b => rfl); (case N => assumption); (case m => repeat (first | assumption | exact List.Mem.head _ | refine List.Mem.tail _ ?_)); (case d => assumption)))
  | ((with_reducible show wpAny _ _ (eval (Expr.Name (Str.ofString "c") _) (compEnvC _ _ _ _)) _ _ _); k_dflt (refine' c_local ?F ?v ?_ ?k ?x ?b; (case x => rfl); (case k => rfl); (case b => decide); (case F => assumption); (case v => assumption)))
  | ((with_reducible show wpAny _ _ (eval (Expr.Name (Str.ofString "good") _) (compEnvC _ _ _ _)) _ _ _); k_dflt (refine' c_cell ?F ?c ?m ?d ?_ ?k ?x ?b; (case x => rfl); (case k => rfl); (case b => decide); (case c => rfl); (case F => assumption); (case m => assumption); (case d => assumption)))))
def Off (L : Nat) (q : Nat) : Prop := q ≠ L + 4 ∧ q ≠ L + 5 ∧ q ≠ L + 6
theorem off_of {L : Nat} {o4 o5 o6 : Obj} {news : List (Addr × Obj)} {D : Nat} (h : ∀ q ∈ news, q.1 ≠ D) (m4 : (L + 4, o4) ∈ news) (m5 : (L + 5, o5) ∈ news) (m6 : (L + 6, o6) ∈ news) : Off L D := ⟨fun e => h _ m4 e.symm, fun e => h _ m5 e.symm, fun e => h _ m6 e.symm⟩
variable {w : World} {A : Around} {E : Value → Shared → Prop} {s : Shared} {h₀ : Heap} {L an : Nat} {cd : Value × Addr} {mean : ExcName → Option Value} {mg mb m : Str → Option Value}
theorem row_add (W : Law w A h₀ L cd mean mg mb) {Q : Flow → Shared → Prop} {news : List (Addr × Obj)} {rvs nvs : List Value} {anw nnw ar nr : Nat}
    (F : Fr h₀ L s.heap m) (N : News h₀ L s.heap news) (mr : (ar, listOf rvs.toArray nr) ∈ news) (mn : (anw, listOf nvs.toArray nnw) ∈ news) (hrl : rvs.length ≤ 16) (hnl : nvs.length ≤ 16)
    (S : Says m [(Str.ofString "row", .ref ar), (Str.ofString "new", .ref anw)])
    (hQ : ∀ h' tk (D : Nat) n', Fr h₀ L h' (fun z => if z = Str.ofString "row" then some (.ref D) else m z) → News h₀ L h' ((D, listOf (rvs ++ nvs).toArray n') :: news) → (∀ q ∈ news, q.1 ≠ D) → Q .next { s with heap := h', toks := tk }) :
    wpAny (model PP w) A (exec (nth body10 3) (lawEnv L cd)) Q E s := by
  have X := W.X
  have T := W.T
  have hh := W.hh
  have TR := topRead_of T
  have F0 := F
  have F := fr_says F _ S
  dsimp only [kstB] at F
  change wpAny _ _ (exec (Stmt.Assign [.Name _ _] (.BinOp _ _ _ _) _) (envX _ { kind := _, names := _ :: _, isGenerator := _, isCoroutine := _, more := _ } L _ _ _)) _ _ _
  walk_at "my steps"
  have hlt : ∀ q ∈ news, q.1 ≠ s.heap.objs.size := fun q hq => Nat.ne_of_lt (Heap.lt_size (N q hq).1)
  refine add_lists F N ⟨_, (N _ mr).1, rfl, _, rfl⟩ ⟨_, (N _ mn).1, rfl, _, rfl⟩ (fun h5 F5 N5 => ?_) (Nat.le_trans (Nat.add_le_add hrl hnl) (by decide))
  walk_at "my steps"
  rename Fr _ _ _ _ => F6
  rename News _ _ _ _ => N6
  exact hQ _ _ _ _ (fr_back _ S F6) N6 hlt
/-- statements 1..3 of the body of the loop over the cells -/
theorem body10_rest (W : Law w A h₀ L cd mean mg mb) {Q : Flow → Shared → Prop} {p4 : Addr × Obj} {tl pre : List (Addr × Obj)} {rvs nvs cvs : List Value} {row new code : List Nat} {anw nnw acd ncd ar nr : Nat} {o1 o4 o5 o6 : Obj} {v6 : Option Value} {lt : Int} {tlt : Tok}
    (F : Fr h₀ L s.heap m) (N : News h₀ L s.heap ((anw, listOf nvs.toArray nnw) :: p4 :: (L + 4, o4) :: (L + 5, o5) :: (L + 6, o6) :: (ar, listOf rvs.toArray nr) :: (acd, listOf cvs.toArray ncd) :: tl))
    (m1 : (L + 1, o1) ∈ tl) (d1 : o1.data = .cell (some (.int lt tlt))) (d4 : o4.data = .cell (some (.ref acd))) (d6 : o6.data = .cell v6)
    (hc : IntsAre cvs (nI code)) (hn : IntsAre nvs (nI new)) (hr : IntsAre rvs (nI row))
    (hcl : code.length ≤ 16) (hnl : new.length ≤ 16) (hrl : row.length ≤ 16) (hcx : ∀ x ∈ code, x < 16) (hnx : ∀ x ∈ new, x < 16) (hlt0 : 0 ≤ lt) (hlt1 : lt < 65536)
    (hp4 : Off L p4.1) (hanw : Off L anw) (har : Off L ar) (hacd : Off L acd) (htl : ∀ q ∈ tl, Off L q.1)
    (S : Says m [(Str.ofString "new", .ref anw), (Str.ofString "row", .ref ar)])
    (hQ : ∀ h' tk (ar' acd' : Nat) nr' nc' rvs' cvs' o4' o6' v6', Fr h₀ L h' (fun z => if z = Str.ofString "row" then some (.ref ar') else m z) →
      News h₀ L h' (p4 :: (L + 4, o4') :: (L + 5, o5) :: (L + 6, o6') :: (ar', listOf rvs'.toArray nr') :: (acd', listOf cvs'.toArray nc') :: tl) → o4'.data = .cell (some (.ref acd')) → o6'.data = .cell v6' → Off L ar' → Off L acd' →
      IntsAre rvs' (nI (row ++ new)) → IntsAre cvs' (nI (match new.filter (Lex.ok (letP lt) code) with | [] => code | g :: _ => code ++ code.map (g ^^^ ·))) → Q .next { s with heap := h', toks := tk }) :
    wpAny (model PP w) A (execs (nth body10 1 :: nth body10 2 :: nth body10 3 :: []) (lawEnv L cd)) Q E s := by
  have X := W.X
  have T := W.T
  have hh := W.hh
  have TR := topRead_of T
  have F0 := F
  have F := fr_says F _ S
  dsimp only [kstB] at F
  have hrvl : rvs.length ≤ 16 := by have := hr.length; simp at this; omega
  have hnvl : nvs.length ≤ 16 := by have := hn.length; simp at this; omega
  have hcvl : cvs.length ≤ 16 := by have := hc.length; simp at this; omega
  change wpAny _ _ (execs (Stmt.Assign [.Name _ _] (sValue (nth body10 1)) _ :: Stmt.If _ _ _ _ :: nth body10 3 :: []) (envX _ { kind := _, names := _ :: _, isGenerator := _, isCoroutine := _, more := _ } L _ _ _)) _ _ _
  walk_at "my steps"
  have mt : ∀ q ∈ tl, q ∈ ((anw, listOf nvs.toArray nnw) :: p4 :: (L + 4, o4) :: (L + 5, o5) :: (L + 6, o6) :: (ar, listOf rvs.toArray nr) :: (acd, listOf cvs.toArray ncd) :: tl) := fun q hq => .tail _ (.tail _ (.tail _ (.tail _ (.tail _ (.tail _ (.tail _ hq))))))
  refine good_eval W F N (mt _ m1) d1 (.tail _ (.tail _ (.head _))) d4 (.tail _ (.tail _ (.tail _ (.tail _ (.tail _ (.tail _ (.head _))))))) hc (.head _) hn hcl hnl hcx hnx hlt0 hlt1 ⟨by rfl, trivial⟩ (fun D ys h2 tk2 n2 F2 N2 hy hne => ?_)
  have hD6 : D ≠ L + 6 := fun e => hne (L + 6, o6) (.tail _ (.tail _ (.tail _ (.tail _ (.head _))))) e.symm
  have hD4 : D ≠ L + 4 := fun e => hne (L + 4, o4) (.tail _ (.tail _ (.head _))) e.symm
  clear F N
  walk_at "my steps"
  refine store_cellN (pre := [(D, _), (anw, _), p4, (L + 4, o4), (L + 5, o5)]) (post := (ar, listOf rvs.toArray nr) :: (acd, listOf cvs.toArray ncd) :: tl) F2 N2 (c := L + 6) (by rfl) ?_ ?_ d6 (by rfl) (by rfl) (fun h3 o6' F3 N3 d6' => ?_)
  · exact List.forall_mem_cons.mpr ⟨hD6, List.forall_mem_cons.mpr ⟨hanw.2.2, List.forall_mem_cons.mpr ⟨hp4.2.2, List.forall_mem_cons.mpr ⟨fun e => absurd (show L + 4 = L + 6 from e) (by omega), List.forall_mem_cons.mpr ⟨fun e => absurd (show L + 5 = L + 6 from e) (by omega), List.forall_mem_nil _⟩⟩⟩⟩⟩
  · exact List.forall_mem_cons.mpr ⟨har.2.2, List.forall_mem_cons.mpr ⟨hacd.2.2, fun q hq => (htl q hq).2.2⟩⟩
  dsimp only [List.cons_append, List.nil_append] at N3
  clear F2 N2
  walk_at "my steps"
  rename_i l4 h4 F4 N4 ll4
  refine ke_ne_ints (N4.isList (.tail _ (.head _))) (N4.isList (.head _)) hy .nil W.hun ?_
  cases hg : new.filter (Lex.ok (letP lt) code) with
  | nil =>
    rw [hg] at hQ
    walk_at "my steps"
    have N4 := News.sub N4 (fun q hq => .tail _ (.tail _ hq))
    refine wpAny_execs_cons (row_add W (fr_unsay S F4) N4 (.tail _ (.tail _ (.tail _ (.tail _ (.tail _ (.head _)))))) (.head _) hrvl hnvl ⟨S.2.1, S.1, trivial⟩ (fun h5 tk5 D5 n5 F5 N5 hne5 => wpAny_execs_nil ?_))
    refine hQ _ _ D5 acd n5 ncd (rvs ++ nvs) cvs o4 o6' _ F5 (News.sub N5 ?_) d4 d6' ?_ hacd (by unfold nI; rw [List.map_append]; exact hr.append hn) hc
    · intro q hq
      simp only [List.mem_cons] at hq ⊢
      rcases hq with h | h | h | h | h | h | h
      · exact .inr (.inr (.inl h))
      · exact .inr (.inr (.inr (.inl h)))
      · exact .inr (.inr (.inr (.inr (.inl h))))
      · exact .inr (.inr (.inr (.inr (.inr (.inl h)))))
      · exact .inl h
      · exact .inr (.inr (.inr (.inr (.inr (.inr (.inr (.inl h)))))))
      · exact .inr (.inr (.inr (.inr (.inr (.inr (.inr (.inr h)))))))
    · exact off_of hne5 (.tail _ (.tail _ (.head _))) (.tail _ (.tail _ (.tail _ (.head _)))) (.tail _ (.tail _ (.tail _ (.tail _ (.head _)))))
  | cons g gs =>
    have hg16 : g < 16 := hnx g (List.mem_filter.mp (by rw [hg]; exact .head _)).1
    rw [hg] at hQ hy
    walk_at "my steps"
    · rename_i q; simp at q
    · refine comp_items (K := kN) (cl := [(Str.ofString "good", L + 6)]) (as := code) (fun _ => true) (fun x => PyData.int ((g ^^^ x : Nat) : Int)) F4 N4 hh (by with_unfolding_all rfl) (by decide) (by rfl) (by decide) (by rfl) (by intro x; with_unfolding_all rfl) (Nat.le_trans hcl (by decide)) ?_ ?_ ?_ ?_
      · intro Q' hQ'
        walk_at "my steps"
        exact hQ' _ _ acd _ F4 N4 (N4.isList (.tail _ (.tail _ (.tail _ (.tail _ (.tail _ (.tail _ (.tail _ (.tail _ (.head _)))))))))) (areOf_nI hc)
      · intro h₁ C a v s₂ m₂ E' F1 N1 hk hv F2 hm
        exact wpAny_tests_nil ⟨rfl, s₂.heap, s₂.toks, rfl, fun _ _ e => e⟩
      · intro h₁ C a v s₂ m₂ E' F1 N1 hk hv _ F2 hm
        obtain ⟨ta, rfl⟩ := hv
        have g6 := (N1 _ (.tail _ (.tail _ (.tail _ (.tail _ (.tail _ (.tail _ (.head _)))))))).1
        have l3 : s₂.heap.IsList D ys.toArray := ⟨_, F2.keep _ _ (N1 _ (.tail _ (.head _))).1, rfl, _, rfl⟩
        walk_at "my steps"
        · show Carried (Value.int (Builtin.bitXor (g : Int) (a : Int)) _) _
          rw [(xor16 g hg16 a (hcx a hk)).1]
          exact .int _ _
        · exact ⟨_, _, rfl, fun _ _ e => e⟩
      · intro D2 ys2 h5 tk5 n5 F5 N5 hc5 hne5
        have hys2 : IntsAre ys2 (nI (code.map (g ^^^ ·))) := ints_of_carried (by
          have e : (List.filter (fun _ => true) code).map (fun x => PyData.int ((g ^^^ x : Nat) : Int)) = (nI (code.map (g ^^^ ·))).map PyData.int := by
            rw [List.filter_eq_self.mpr (fun _ _ => rfl), List.map_map, List.map_map]; rfl
          rw [← e]; exact hc5)
        have hys2l : ys2.length ≤ 16 := by have := hys2.length; simp at this; omega
        refine add_lists F5 N5 (N5.isList (.tail _ (.tail _ (.tail _ (.tail _ (.tail _ (.tail _ (.tail _ (.tail _ (.tail _ (.head _))))))))))) (N5.isList (.head _)) (fun h6 F6 N6 => ?_) (Nat.le_trans (Nat.add_le_add hcvl hys2l) (by decide))
        walk_at "my steps"
        have lt4 : L + 4 < h5.objs.size := Heap.lt_size (N5 _ (.tail _ (.tail _ (.tail _ (.tail _ (.tail _ (.head _))))))).1
        have lt6 : L + 6 < h5.objs.size := Heap.lt_size (N5 _ (.tail _ (.tail _ (.tail _ (.tail _ (.tail _ (.tail _ (.tail _ (.head _))))))))).1
        have hD2 : D2 ≠ L + 4 := fun e => hne5 (L + 4, o4) (.tail _ (.tail _ (.tail _ (.tail _ (.head _))))) e.symm
        have hl4 : l4 ≠ L + 4 := fun e => absurd (show L + 4 < L + 4 from e ▸ ll4.2.2.2.1) (Nat.lt_irrefl _)
        refine store_cellN (pre := [(h5.objs.size, { cls := .type "list", data := .seq (cvs ++ ys2).toArray }), (D2, listOf ys2.toArray n5), (l4, listOf #[] 0), (D, listOf ys.toArray n2), (anw, listOf nvs.toArray nnw), p4]) (post := (L + 5, o5) :: (L + 6, o6') :: (ar, listOf rvs.toArray nr) :: (acd, listOf cvs.toArray ncd) :: tl) F6 N6 (c := L + 4) (by rfl) ?_ ?_ d4 (by rfl) (by rfl) (fun h7 o4' F7 N7 d4' => ?_)
        · exact List.forall_mem_cons.mpr ⟨fun e => absurd (show h5.objs.size = L + 4 from e) (by omega), List.forall_mem_cons.mpr ⟨hD2, List.forall_mem_cons.mpr ⟨hl4, List.forall_mem_cons.mpr ⟨hD4, List.forall_mem_cons.mpr ⟨hanw.1, List.forall_mem_cons.mpr ⟨hp4.1, List.forall_mem_nil _⟩⟩⟩⟩⟩⟩
        · exact List.forall_mem_cons.mpr ⟨fun e => absurd (show L + 5 = L + 4 from e) (by omega), List.forall_mem_cons.mpr ⟨fun e => absurd (show L + 6 = L + 4 from e) (by omega), List.forall_mem_cons.mpr ⟨har.1, List.forall_mem_cons.mpr ⟨hacd.1, fun q hq => (htl q hq).1⟩⟩⟩⟩
        dsimp only [List.cons_append, List.nil_append] at N7
        walk_at "my steps"
        refine wpAny_execs_cons (row_add W (fr_unsay S F7) N7 (.tail _ (.tail _ (.tail _ (.tail _ (.tail _ (.tail _ (.tail _ (.tail _ (.tail _ (.head _)))))))))) (.tail _ (.tail _ (.tail _ (.tail _ (.head _))))) hrvl hnvl ⟨S.2.1, S.1, trivial⟩ (fun h8 tk8 D8 n8 F8 N8 hne8 => wpAny_execs_nil ?_))
        refine hQ _ _ D8 h5.objs.size n8 0 (rvs ++ nvs) (cvs ++ ys2) o4' o6' _ F8 (News.sub N8 ?_) d4' d6' ?_ ⟨by omega, by omega, by omega⟩ (by unfold nI; rw [List.map_append]; exact hr.append hn) (by unfold nI; rw [List.map_append]; exact hc.append hys2)
        · intro q hq
          simp only [List.mem_cons] at hq ⊢
          rcases hq with h | h | h | h | h | h | h
          · exact .inr (.inr (.inr (.inr (.inr (.inr (.inl h))))))
          · exact .inr (.inr (.inr (.inr (.inr (.inr (.inr (.inl h)))))))
          · exact .inr (.inr (.inr (.inr (.inr (.inr (.inr (.inr (.inl h))))))))
          · exact .inr (.inr (.inr (.inr (.inr (.inr (.inr (.inr (.inr (.inl h)))))))))
          · exact .inl h
          · exact .inr (.inl h)
          · exact .inr (.inr (.inr (.inr (.inr (.inr (.inr (.inr (.inr (.inr (.inr (.inr h)))))))))))
        · exact off_of hne8 (.tail _ (.tail _ (.tail _ (.tail _ (.tail _ (.tail _ (.head _))))))) (.tail _ (.tail _ (.tail _ (.tail _ (.tail _ (.tail _ (.tail _ (.head _)))))))) (.tail _ (.tail _ (.tail _ (.tail _ (.tail _ (.tail _ (.tail _ (.tail _ (.head _)))))))))
end Mine
end
section
open PySem PySem.W PyProof.Rows PySem.Calls
set_option Elab.async false
set_option maxRecDepth 100000
set_option maxHeartbeats 4000000
namespace Mine
theorem offRow4 : True := by
  w_top off
  exact True.intro
local macro_rules | `(tactic| walk_at "pad 17 0") => `(tactic| fail)
local macro_rules | `(tactic| walk_at "pad 17 1") => `(tactic| fail)
local macro_rules | `(tactic| walk_at "pad 17 2") => `(tactic| fail)
local macro_rules | `(tactic| walk_at "pad 17 3") => `(tactic| fail)
local macro_rules | `(tactic| walk_at "pad 17 4") => `(tactic| fail)
local macro_rules | `(tactic| walk_at "pad 17 5") => `(tactic| fail)
local macro_rules | `(tactic| walk_at "pad 17 6") => `(tactic| fail)
local macro_rules | `(tactic| walk_at "pad 17 7") => `(tactic| fail)
local macro_rules | `(tactic| walk_at "pad 17 8") => `(tactic| fail)
local macro_rules | `(tactic| walk_at "pad 17 9") => `(tactic| fail)
local macro_rules | `(tactic| walk_at "pad 17 10") => `(tactic| fail)
local macro_rules | `(tactic| walk_at "pad 17 11") => `(tactic| fail)
local macro_rules | `(tactic| walk_at "pad 17 12") => `(tactic| fail)
local macro_rules | `(tactic| walk_at "pad 17 13") => `(tactic| fail)
local macro_rules | `(tactic| walk_at "pad 17 14") => `(tactic| fail)
local macro_rules | `(tactic| walk_at "pad 17 15") => `(tactic| fail)
theorem fill_k12 (w : World) (h : Heap) : (Mine.hd.heap_39 w.params).In h → Challenge.rw_tv0007_01.row.prog = Challenge.rw_tv0007_01.row.prog := by
  k_fill
  intro _
  rfl
local macro_rules | `(tactic| k_mem) => `(tactic| with_reducible assumption)
local macro_rules | `(tactic| k_all) => `(tactic| with_reducible assumption)
local macro_rules | `(tactic| walk_at "my steps") => `(tactic| repeat' (first | ((fail_if_success (with_reducible show wpAny _ _ (execs (List.drop _ _) _) _ _ _)); (fail_if_success (with_reducible show wpAny _ _ (execs (nth _ _ :: _) _) _ _ _)); (fail_if_success (with_reducible show wpAny _ _ (exec (Stmt.For _ _ _ _ _) _) _ _ _)); (fail_if_success (with_reducible show wpAny _ _ (eval (Expr.ListComp _ _ _ _) _) _ _ _)); (fail_if_success (with_reducible show wpAny _ _ (call (Value.ref _) _) _ _ _)); (fail_if_success (with_reducible show wpAny _ _ (compareOp _ (Value.ref _) (Value.ref _)) _ _ _)); (fail_if_success (with_reducible show wpAny _ _ (binaryOp _ (Value.ref _) (Value.ref _)) _ _ _)); (fail_if_success (with_reducible show wpAny _ _ (subscriptTail _ _ (Value.ref _) (Value.ref _)) _ _ _)); (fail_if_success (with_reducible show wpAny _ _ (storeName _ (Str.ofString "code") _) _ _ _)); (fail_if_success (with_reducible show wpAny _ _ (storeName _ (Str.ofString "good") _) _ _ _)); first | (k_unfold; (try dsimp only)) | (walk1 <;> (try dsimp only)) | (dsimp only; walk1) | (leave1; (try dsimp only)))))
section
variable {prog : Program} {w : World} {A : Around} {E : Value → Shared → Prop} {s : Shared} {h₀ : Heap} {L : Addr} {env : Env}
theorem for_list_at {target : Expr} {body orelse : List Stmt} {vs : List Value} {ax : Addr} {oax : Obj} {R : Result → Shared → Prop} {m₀ : Str → Option Value} {news₀ : List (Addr × Obj)}
    (J : Nat → (Str → Option Value) → List (Addr × Obj) → Prop) (hh : A.handled = none)
    (hax : ∀ i m news, J i m news → (ax, oax) ∈ news)
    (hoff : ∀ i m news, J i m news → ∀ p ∈ news, (∀ f, p.2.data ≠ .fields f) ∨ ∃ q ∈ news₀, q.1 = p.1)
    (F' : Fr h₀ L s.heap m₀) (N' : News h₀ L s.heap news₀) (hl : s.heap.IsList ax vs.toArray)
    (h0 : J 0 m₀ news₀) (ht : ∀ I v, letOwnedTupleGo target (.ref I) v = pure ())
    (step : ∀ I i v h tk m news o E', i < vs.length → vs[i]? = some v → J i m news → (∀ p ∈ news, p.1 ≠ I) → Fr h₀ L h m → News h₀ L h ((I, o) :: news) →
      wpAny (model prog w) A (assign target env v) (fun _ s₂ => wpAny (model prog w) A (execs body env) (fun f s₃ => match f with
        | .next | .cont => Turn h₀ L s (I, o) (J (i + 1)) s₃
        | .brk => R (.ok .next) s₃
        | .ret v => R (.ok (.ret v)) s₃) E' s₂) E' { s with heap := h, toks := tk })
    (done : ∀ h tk m news E', J vs.length m news → Fr h₀ L h m → News h₀ L h news →
      wpAny (model prog w) A (execs orelse env) (fun f s₃ => R (.ok f) s₃) E' { s with heap := h, toks := tk }) :
    wpAny (model prog w) A (pyIter (.ref ax)) (fun it s₂ => codeAny (model prog w) A (.forLoop target it body orelse env) R s₂) E s := by
  refine wpAny_pyIter_list hl ?_
  have hm := hax _ _ _ h0
  have hlt : ax < s.heap.objs.size := Heap.lt_size (N' _ hm).1
  have hW := Walks.list (prog := prog) (w := w) hh s.heap.objs.size ax (Nat.ne_of_lt hlt) vs.toArray
  rw [List.size_toArray] at hW
  refine for_core (s := _) (I := s.heap.objs.size) (m₀ := m₀) (news₀ := news₀) J hW (fun b hb hbI => .inr ⟨oax, fun i m news hJ => ?_⟩) (fun i h hi => ?_)
    (fun i m news hJ => off_new (m := m₀) N' (hoff i m news hJ)) (F'.push _) (news_fresh F' N') ?_ h0 (ht _) ?_ ?_
  · have : b = ax := by simpa [hbI] using hb
    rw [this]; exact hax i m news hJ
  · obtain ⟨o, h1, h2⟩ := hi.1
    exact ⟨o, _, h1, h2.2⟩
  · exact ⟨⟨_, Heap.get?_push_size _ rfl, rfl, rfl⟩, hl.at fun o e => Heap.get?_push_of_some _ e⟩
  · intro i v h tk₂ m news o E' hi hv hJ off F₁ N₁
    exact step _ i v h tk₂ m news o E' hi (by simpa using hv) hJ off F₁ N₁
  · intro h tk₂ m news E' hJ F₁ N₁
    exact done h tk₂ m news E' hJ F₁ N₁
end
def rows (P : Nat → Bool) (cs : List Int) : List Nat × List Nat := (cs.map cellN).foldl (Lex.grow P) ([0], [0])
theorem rows_snoc (P : Nat → Bool) (cs : List Int) (c : Int) : rows P (cs ++ [c]) = Lex.grow P (rows P cs) (cellN c) := by
  unfold rows; rw [List.map_append, List.foldl_append]; rfl
theorem rows_ok (P : Nat → Bool) : ∀ (n : Nat) (cs : List Int), cs.length = n → (rows P cs).1.length = 2 ^ n ∧ (rows P cs).2.length ≤ 2 ^ n ∧ (∀ x ∈ (rows P cs).1, x < 16) ∧ (∀ x ∈ (rows P cs).2, x < 16)
  | 0, cs, h => by
    obtain rfl := List.eq_nil_of_length_eq_zero h
    exact ⟨rfl, Nat.le_refl _, by intro x hx; rw [List.mem_singleton.mp hx]; decide, by intro x hx; rw [List.mem_singleton.mp hx]; decide⟩
  | n + 1, cs, h => by
    have hne : cs ≠ [] := fun e => by rw [e] at h; cases h
    obtain ⟨cs', c, rfl⟩ : ∃ l c, cs = l ++ [c] := ⟨cs.dropLast, cs.getLast hne, (List.dropLast_concat_getLast hne).symm⟩
    rw [List.length_append, List.length_singleton] at h
    obtain ⟨i1, i2, i3, i4⟩ := rows_ok P n cs' (by omega)
    rw [rows_snoc]
    have hx : ∀ a b : Nat, a < 16 → b < 16 → a ^^^ b < 16 := fun a b ha hb => (xor16 a ha b hb).2
    have hnew : ∀ x ∈ (rows P cs').1.map (· ^^^ cellN c), x < 16 := fun x hx' => by
      obtain ⟨y, hy, rfl⟩ := List.mem_map.mp hx'
      exact hx _ _ (i3 y hy) (cellN_lt c)
    unfold Lex.grow
    dsimp only
    refine ⟨?_, ?_, ?_, ?_⟩
    · rw [List.length_append, List.length_map, i1, Nat.pow_succ]; omega
    · split
      · exact Nat.le_trans i2 (Nat.pow_le_pow_right (by decide) (by omega))
      · rw [List.length_append, List.length_map, Nat.pow_succ]; omega
    · intro x hx'
      rcases List.mem_append.mp hx' with h' | h'
      · exact i3 x h'
      · exact hnew x h'
    · split
      · exact i4
      · rename_i g t hg
        have hg16 : g < 16 := hnew g (List.mem_filter.mp (by rw [hg]; exact .head _)).1
        intro x hx'
        rcases List.mem_append.mp hx' with h' | h'
        · exact i4 x h'
        · obtain ⟨y, hy, rfl⟩ := List.mem_map.mp h'
          exact hx _ _ hg16 (i4 y hy)
theorem ints_take {vs : List Value} {ns : List Int} (h : IntsAre vs ns) (n : Nat) : IntsAre (vs.take n) (ns.take n) := by
  induction h generalizing n with
  | nil => simp; exact .nil
  | cons a t h ih => cases n with
    | zero => exact .nil
    | succ n => exact .cons a t (ih n)
variable {w : World} {A : Around} {E : Value → Shared → Prop} {s : Shared} {h₀ : Heap} {L : Nat} {cd : Value × Addr} {mean : ExcName → Option Value} {mg mb m : Str → Option Value}
def J10 (L aw : Nat) (P : Nat → Bool) (cs : List Int) (tl : List (Addr × Obj)) (i : Nat) (m : Str → Option Value) (news : List (Addr × Obj)) : Prop :=
  ∃ rvs cvs, ∃ (ar acd : Nat), ∃ nr nc o4 o5 o6 v5 v6, news = (L + 4, o4) :: (L + 5, o5) :: (L + 6, o6) :: (ar, listOf rvs.toArray nr) :: (acd, listOf cvs.toArray nc) :: tl ∧ o4.data = .cell (some (.ref acd)) ∧ o5.data = .cell v5 ∧ o6.data = .cell v6 ∧
    IntsAre rvs (nI (rows P (cs.take i)).1) ∧ IntsAre cvs (nI (rows P (cs.take i)).2) ∧ Off L ar ∧ Off L acd ∧ Says m [(Str.ofString "words", .ref aw), (Str.ofString "row", .ref ar)]
theorem row_turn (W : Law w A h₀ L cd mean mg mb) {aw I i : Nat} {o o1 : Obj} {tl news : List (Addr × Obj)} {cs : List Int} {ct lt : Int} {tc tlt : Tok} {s0 : Shared}
    (hs : ∃ h tk, s = { s0 with heap := h, toks := tk }) (F : Fr h₀ L s.heap m) (N : News h₀ L s.heap ((I, o) :: news)) (J : J10 L aw (letP lt) cs tl i m news) (off : ∀ p ∈ news, p.1 ≠ I)
    (hi : i < 4) (hcs : cs.length = 4) (hct : cs[i]? = some ct) (m1 : (L + 1, o1) ∈ tl) (d1 : o1.data = .cell (some (.int lt tlt))) (hlt0 : 0 ≤ lt) (hlt1 : lt < 65536) (htl : ∀ q ∈ tl, Off L q.1) :
    wpAny (model PP w) A (assign (.Name (Str.ofString "cell") pos) (lawEnv L cd) (.int ct tc)) (fun _ s₂ => wpAny (model PP w) A (execs body10 (lawEnv L cd)) (fun f s₃ => match f with
        | .next | .cont => Turn h₀ L s0 (I, o) (J10 L aw (letP lt) cs tl (i + 1)) s₃
        | .brk => False
        | .ret _ => False) E s₂) E s := by
  obtain ⟨hp0, tk0, rfl⟩ := hs
  obtain ⟨rvs, cvs, ar, acd, nr, nc, o4, o5, o6, v5, v6, rfl, d4, d5, d6, hr, hc, har, hacd, S⟩ := J
  obtain ⟨k1, k2, k3, k4⟩ := rows_ok (letP lt) i (cs.take i) (by rw [List.length_take]; omega)
  have hpw : 2 ^ i ≤ 8 := Nat.le_trans (Nat.pow_le_pow_right (by decide) (show i ≤ 3 by omega)) (by decide)
  have hI : Off L I := off_of off (.head _) (.tail _ (.head _)) (.tail _ (.tail _ (.head _)))
  refine store_cell (pre := [(I, o), (L + 4, o4)]) (post := (L + 6, o6) :: (ar, listOf rvs.toArray nr) :: (acd, listOf cvs.toArray nc) :: tl) F N (c := L + 5) (by rfl) (List.forall_mem_cons.mpr ⟨hI.2.1, List.forall_mem_cons.mpr ⟨fun e => absurd (show L + 4 = L + 5 from e) (by omega), List.forall_mem_nil _⟩⟩)
    (List.forall_mem_cons.mpr ⟨fun e => absurd (show L + 6 = L + 5 from e) (by omega), List.forall_mem_cons.mpr ⟨har.2.1, List.forall_mem_cons.mpr ⟨hacd.2.1, fun q hq => (htl q hq).2.1⟩⟩⟩) d5 (by rfl) (by rfl) (fun h1 tk1 o5' F1 N1 d5' => ?_)
  dsimp only [List.cons_append, List.nil_append] at N1
  change wpAny _ _ (execs (nth body10 0 :: nth body10 1 :: nth body10 2 :: nth body10 3 :: []) (lawEnv L cd)) _ _ _
  refine wpAny_execs_cons ?_
  refine new_comp W F1 N1 (.tail _ (.tail _ (.head _))) d5' (.tail _ (.tail _ (.tail _ (.tail _ (.head _))))) hr (by omega) k3 ⟨S.2.1, trivial⟩ (fun D ys h2 tk2 n2 F2 N2 hy hne => ?_)
  have hnew : ∀ x ∈ (rows (letP lt) (cs.take i)).1.map (· ^^^ cellN ct), x < 16 := fun x hx' => by
    obtain ⟨y, hy, rfl⟩ := List.mem_map.mp hx'
    exact (xor16 y (k3 y hy) _ (cellN_lt ct)).2
  have hD : Off L D := off_of hne (.tail _ (.head _)) (.tail _ (.tail _ (.head _))) (.tail _ (.tail _ (.tail _ (.head _))))
  have htake : cs.take (i + 1) = cs.take i ++ [ct] := by rw [List.take_add_one, hct]; rfl
  refine body10_rest (pre := []) (p4 := (I, o)) (new := (rows (letP lt) (cs.take i)).1.map (· ^^^ cellN ct)) W F2 N2 m1 d1 d4 d6 hc hy hr (by omega) (by rw [List.length_map]; omega) (by omega) k4 hnew hlt0 hlt1 hI hD har hacd htl ⟨by rfl, S.2.1, trivial⟩
    (fun h3 tk3 ar' acd' nr' nc' rvs' cvs' o4' o6' v6' F3 N3 e4 e6 hra hcda hr' hc' => ?_)
  refine ⟨h3, tk3, _, _, rfl, F3, N3, rvs', cvs', ar', acd', nr', nc', o4', o5', o6', _, v6', rfl, e4, d5', e6, ?_, ?_, hra, hcda, S.1, by rfl, trivial⟩
  · rw [htake, rows_snoc]; exact hr'
  · rw [htake, rows_snoc]; exact hc'
def End10 (h₀ : Heap) (L aw : Nat) (P : Nat → Bool) (cs : List Int) (TL : List (Addr × Obj)) (s s' : Shared) : Prop :=
  ∃ h' tk m news D n vs, s' = { s with heap := h', toks := tk } ∧ Fr h₀ L h' m ∧ News h₀ L h' news ∧ J10 L aw P (cs.take 4) ((D, listOf vs n) :: TL) 4 m news
theorem law10 (W : Law w A h₀ L cd mean mg mb) {Q : Flow → Shared → Prop} {aw ac : Nat} {o1 o4 o5 o6 : Obj} {v4 v5 v6 : Option Value} {TL : List (Addr × Obj)} {cvs : List Value} {cs : List Int} {nc : Nat} {lt : Int} {tlt : Tok}
    (F : Fr h₀ L s.heap m) (N : News h₀ L s.heap ((L + 4, o4) :: (L + 5, o5) :: (L + 6, o6) :: TL)) (d4 : o4.data = .cell v4) (d5 : o5.data = .cell v5) (d6 : o6.data = .cell v6)
    (m1 : (L + 1, o1) ∈ TL) (d1 : o1.data = .cell (some (.int lt tlt))) (mc : (ac, listOf cvs.toArray nc) ∈ TL) (hc : IntsAre cvs cs) (hcl : cs.length = 6) (hlt0 : 0 ≤ lt) (hlt1 : lt < 65536)
    (hTL : ∀ q ∈ TL, Off L q.1 ∧ ∀ f, q.2.data ≠ .fields f) (S : Says m [(Str.ofString "cells", .ref ac), (Str.ofString "words", .ref aw)])
    (hQ : ∀ s', End10 h₀ L aw (letP lt) cs TL s s' → wpAny (model PP w) A (execs (lawStmts.drop 11) (lawEnv L cd)) Q E s') :
    wpAny (model PP w) A (execs (lawStmts.drop 8) (lawEnv L cd)) Q E s := by
  have X := W.X
  have T := W.T
  have hh := W.hh
  have TR := topRead_of T
  have F0 := F
  have F := fr_says F _ S
  dsimp only [kstB] at F
  have hcvl : cvs.length = 6 := by have := hc.length; omega
  change wpAny _ _ (execs (Stmt.Assign [.Name _ _] _ _ :: Stmt.Assign [.Name _ _] _ _ :: Stmt.For (.Name _ _) _ _ _ _ :: lawStmts.drop 11) (envX _ { kind := _, names := _ :: _, isGenerator := _, isCoroutine := _, more := _ } L _ _ _)) _ _ _
  walk_at "my steps"
  rename_i ar' h1' ll1 h1 acd' h2 F2 N2 ll2
  have har : Off L ar' := ⟨fun e => absurd ll1.1 (by rw [e]; exact Nat.lt_irrefl _), fun e => absurd ll1.2.1 (by rw [e]; exact Nat.lt_irrefl _), fun e => absurd ll1.2.2.1 (by rw [e]; exact Nat.lt_irrefl _)⟩
  have hacd : Off L acd' := ⟨fun e => absurd ll2.2.1 (by rw [e]; exact Nat.lt_irrefl _), fun e => absurd ll2.2.2.1 (by rw [e]; exact Nat.lt_irrefl _), fun e => absurd ll2.2.2.2.1 (by rw [e]; exact Nat.lt_irrefl _)⟩
  refine store_cellN (pre := [(acd', listOf #[Value.int 0 tk] 0), (ar', listOf #[Value.int 0 s.toks] 0)]) (post := (L + 5, o5) :: (L + 6, o6) :: TL) F2 N2 (c := L + 4) (by rfl) (List.forall_mem_cons.mpr ⟨hacd.1, List.forall_mem_cons.mpr ⟨har.1, List.forall_mem_nil _⟩⟩) (List.forall_mem_cons.mpr ⟨fun e => absurd (show L + 5 = L + 4 from e) (by omega), List.forall_mem_cons.mpr ⟨fun e => absurd (show L + 6 = L + 4 from e) (by omega), fun q hq => (hTL q hq).1.1⟩⟩) d4 (by rfl) (by rfl) (fun h3 o4' F3 N3 d4' => ?_)
  dsimp only [List.cons_append, List.nil_append] at N3
  clear F2 N2
  walk_at "my steps"
  rename Fr _ _ _ _ => F3
  rename News _ _ _ _ => N3
  rename_i tkA
  refine wpAny_For ?_ (by intro x; with_unfolding_all rfl)
  walk_at "my steps"
  refine kmk_slice (s := ⟨_, _, _, _, _⟩) F3 N3 (N3.isList (.tail _ (.tail _ (.tail _ (.tail _ (.tail _ mc)))))) .none (.int _ _) (fun D h4 F4 N4 l4 => ?_) (by with_unfolding_all rfl) (by intro r; with_unfolding_all rfl) (by rw [List.size_toArray, hcvl]; decide)
  rw [pick_upto (by decide)] at N4
  have hD : Off L D := ⟨fun e => absurd (l4 _ (.tail _ (.tail _ (.head _)))) (by rw [e]; exact Nat.lt_irrefl _), fun e => absurd (l4 _ (.tail _ (.tail _ (.tail _ (.head _))))) (by rw [e]; exact Nat.lt_irrefl _), fun e => absurd (l4 _ (.tail _ (.tail _ (.tail _ (.tail _ (.head _)))))) (by rw [e]; exact Nat.lt_irrefl _)⟩
  have hIA : IntsAre (cvs.take 4) (cs.take 4) := ints_take hc 4
  have hl4 : (cvs.take 4).length = 4 := by rw [List.length_take]; omega
  dsimp only
  refine for_list_at (vs := cvs.take 4) (ax := D) (oax := listOf (cvs.take (Int.toNat 4)).toArray 0) (h₀ := h₀) (L := L) (news₀ := (L + 4, o4') :: (L + 5, o5) :: (L + 6, o6) :: (ar', listOf #[Value.int 0 s.toks] 0) :: (acd', listOf #[Value.int 0 tkA] 0) :: (D, listOf (cvs.take (Int.toNat 4)).toArray 0) :: TL) (J10 L aw (letP lt) (cs.take 4) ((D, listOf (cvs.take (Int.toNat 4)).toArray 0) :: TL)) hh ?_ ?_ F4 (News.sub N4 ?_) (N4.isList (.head _)) ?_ (by intro I v; rfl) ?_ ?_
  · rintro i m' news ⟨rvs, cvs', ar, acd, nr, nc', o4, o5, o6, v5, v6, rfl, _⟩
    exact .tail _ (.tail _ (.tail _ (.tail _ (.tail _ (.head _)))))
  · rintro i m' news ⟨rvs, cvs', ar, acd, nr, nc', o4, o5, o6, v5, v6, rfl, e4, e5, e6, _⟩ q hq
    simp only [List.mem_cons] at hq
    rcases hq with rfl | rfl | rfl | rfl | rfl | rfl | hq
    · exact .inl (fun f e => by rw [e4] at e; cases e)
    · exact .inl (fun f e => by rw [e5] at e; cases e)
    · exact .inl (fun f e => by rw [e6] at e; cases e)
    · exact .inl (fun f e => by cases e)
    · exact .inl (fun f e => by cases e)
    · exact .inl (fun f e => by cases e)
    · exact .inl (hTL q hq).2
  · intro q hq
    simp only [List.mem_cons] at hq ⊢
    rcases hq with h | h | h | h | h | h | h
    · exact .inr (.inr (.inr (.inl h)))
    · exact .inr (.inr (.inr (.inr (.inl h))))
    · exact .inr (.inr (.inr (.inr (.inr (.inl h)))))
    · exact .inr (.inr (.inl h))
    · exact .inr (.inl h)
    · exact .inl h
    · exact .inr (.inr (.inr (.inr (.inr (.inr h)))))
  · exact ⟨[Value.int 0 s.toks], [Value.int 0 tkA], ar', acd', 0, 0, o4', o5, o6, v5, v6, rfl, d4', d5, d6, .cons 0 _ .nil, .cons 0 _ .nil, har, hacd, by rfl, by rfl, trivial⟩
  · intro I i v h tk5 m' news o E' hi hv hJ off F5 N5
    obtain ⟨ct, hct⟩ : ∃ ct, (cs.take 4)[i]? = some ct := ⟨(cs.take 4)[i]'(by rw [← hIA.length]; exact hi), List.getElem?_eq_getElem _⟩
    obtain ⟨tc, ht⟩ := hIA.get i ct hct
    rw [hv] at ht; cases ht
    have Z := fun pos => row_turn (pos := pos) (E := E') (s := { s with heap := h, toks := tk5 }) (s0 := { s with heap := h4, toks := tk }) (tc := tc) W ⟨_, _, rfl⟩ F5 N5 hJ off (by omega) (by rw [List.length_take]; omega) hct (.tail _ m1) d1 hlt0 hlt1 (List.forall_mem_cons.mpr ⟨hD, fun q hq => (hTL q hq).1⟩)
    refine wpAny_mono (Z _) (fun _ s₂ h₂ => wpAny_mono h₂ (fun f s₃ h₃ => ?_) (fun _ _ x => x)) (fun _ _ x => x)
    cases f with
    | next => exact h₃
    | cont => exact h₃
    | brk => exact h₃.elim
    | ret v => exact h₃.elim
  · intro h tk5 m' news E' hJ F5 N5
    rw [hl4] at hJ
    exact wpAny_execs_nil (hQ _ ⟨h, tk5, m', news, D, 0, _, rfl, F5, N5, hJ⟩)
end Mine
end
section
open PySem PySem.W PyProof.Rows PySem.Calls PySem.Spec PySem.SeqAt
set_option Elab.async false
set_option maxRecDepth 100000
set_option maxHeartbeats 4000000
namespace Mine
theorem offWords2 : True := by
  w_top off
  exact True.intro
/-- the part of the ledger that does not change any more -/
structure Fast (L aw p : Nat) (lt : Int) (refs : List Value) (nw : Nat) (o1 : Obj) (tlt : Tok) (tl : List (Addr × Obj)) : Prop where
  mw : (aw, listOf refs.toArray nw) ∈ tl
  len : refs.length = 16
  at_ : ∀ j, j < 16 → ∃ a vs n, refs[j]? = some (.ref a) ∧ (a, listOf vs.toArray n) ∈ tl ∧ StrsAre vs (wset p j)
  m1 : (L + 1, o1) ∈ tl
  d1 : o1.data = .cell (some (.int lt tlt))
  hp : p < 29
  lt0 : 0 ≤ lt
  lt1 : lt < 65536
abbrev strsD (us : List Str) : PyData := .list (us.map PyData.str)
abbrev wordsD (p : Nat) : List PyData := (List.range 16).map fun j => strsD (wset p j)
theorem lay_strs {us : List Str} (h : ∀ w ∈ us, PyData.strOk w = true) : (strsD us).canLay0 = true ∧ (strsD us).depth = 1 := by
  have h1 := shaped_strs h
  refine ⟨canLay_of_shaped h1, ?_⟩
  have h2 : ∀ us : List Str, PyData.depthAll (us.map PyData.str) = 0 := fun us => by
    induction us with
    | nil => rfl
    | cons a r ih => simp only [List.map_cons, PyData.depthAll, PyData.depth, ih]; rfl
  show PyData.depthAll _ + 1 = 1
  rw [h2]
theorem canLayAll_map {α : Type} {f : α → PyData} : ∀ {l : List α}, (∀ x ∈ l, (f x).canLay0 = true) → PyData.canLayAll0 (l.map f) = true
  | [], _ => rfl
  | a :: l, h => by
    show ((f a).canLay0 && PyData.canLayAll0 (l.map f)) = true
    rw [h a (.head _), canLayAll_map fun x hx => h x (.tail _ hx)]; rfl
theorem wordsD_lay {p : Nat} (hp : p < 29) : PyData.canLayAll0 (wordsD p) = true := canLayAll_map fun j _ => (lay_strs (toS_ok hp)).1
theorem readsAll_of {α : Type} {h : Heap} {f : α → PyData} : ∀ {l : List α} {vs : List Value}, vs.length = l.length → (∀ (j : Nat) (x : α), l[j]? = some x → ∃ v as, vs[j]? = some v ∧ Reads h v (f x) as) → ∃ as, ReadsAll h vs (l.map f) as
  | [], [], _, _ => ⟨[], .nil⟩
  | a :: l, v :: vs, hl, hr => by
    obtain ⟨v', as, e, r⟩ := hr 0 a rfl
    simp only [List.getElem?_cons_zero, Option.some.injEq] at e
    obtain ⟨bs, rs⟩ := readsAll_of (l := l) (vs := vs) (f := f) (h := h) (by simpa using hl) (fun (j : Nat) (x : α) hj => hr (j + 1) x (by simpa using hj))
    exact ⟨as ++ bs, .cons (e ▸ r) rs⟩
section
variable {h₀ h : Heap} {L aw p : Nat} {Lx : Addr} {lt : Int} {refs : List Value} {nw : Nat} {o1 : Obj} {tlt : Tok} {tl news : List (Addr × Obj)}
theorem Fast.list (K : Fast L aw p lt refs nw o1 tlt tl) (N : News h₀ Lx h news) (sub : ∀ q ∈ tl, q ∈ news) {j : Nat} (hj : j < 16) : ∃ a vs, refs[j]? = some (.ref a) ∧ h.IsList a vs.toArray ∧ StrsAre vs (wset p j) := by
  obtain ⟨a, vs, n, e1, e2, e3⟩ := K.at_ j hj
  exact ⟨a, vs, e1, N.isList (sub _ e2), e3⟩
theorem Fast.reads (K : Fast L aw p lt refs nw o1 tlt tl) (N : News h₀ Lx h news) (sub : ∀ q ∈ tl, q ∈ news) : ∃ as, ReadsAll h refs (wordsD p) as := by
  refine readsAll_of (by rw [K.len, List.length_range]) fun j x hj => ?_
  have hj' : j < 16 := by
    have := List.getElem?_eq_some_iff.mp hj
    obtain ⟨h1, _⟩ := this
    simpa using h1
  rw [List.getElem?_range hj'] at hj
  obtain ⟨a, vs, e1, e2, e3⟩ := K.list N sub hj'
  cases hj
  exact ⟨_, _, e1, reads_newData e2 e3.carried⟩
theorem Fast.isList (K : Fast L aw p lt refs nw o1 tlt tl) (N : News h₀ Lx h news) (sub : ∀ q ∈ tl, q ∈ news) : h.IsList aw refs.toArray := N.isList (sub _ K.mw)
end
section
variable {prog : Program} {w : World} {A : Around} {E : Value → Shared → Prop} {s : Shared} {h₀ : Heap} {Lx : Addr} {L aw p : Nat} {lt : Int} {refs : List Value} {nw : Nat} {o1 : Obj} {tlt : Tok} {tl news : List (Addr × Obj)} {Q : Value → Shared → Prop} {g : Addr} {vs : List Value} {k : Nat}
theorem words_item {value slice : Expr} {u : Tok} (K : Fast L aw p lt refs nw o1 tlt tl) (N : News h₀ Lx s.heap news) (sub : ∀ q ∈ tl, q ∈ news) {i : Int} (hi : i = (k : Int)) (hk : k < 16)
    (h : ∀ a vs n, (a, listOf vs.toArray n) ∈ tl → StrsAre vs (wset p k) → Q (.ref a) s)
    (hs : subscripted slice false (.ref aw) (.int i u) = operate [.ref aw, .int i u] (getItem (.ref aw) (.int i u)) := by with_unfolding_all rfl) (hg : ∀ r, letTemporaryGo value (.ref aw) r = pure () := by intro _; with_unfolding_all rfl) :
    wpAny (model prog w) A (subscriptTail value slice (.ref aw) (.int i u)) Q E s := by
  obtain ⟨a, vs, n, e1, e2, e3⟩ := K.at_ k hk
  refine item_listL (K.isList N sub) (by omega) (by omega) ?_ (h a vs n e2 e3) hs hg
  rw [hi, Int.toNat_natCast]; exact e1
theorem eqv_words {us vs : List Str} : PyData.eqv (strsD us) (strsD vs) = decide (us = vs) := by rw [PyData.eqv, eqv_strs]
theorem words_any (hk : k < 16) : ((wordsD p).any fun y => PyData.eqv y (strsD (wset p k))) = true := by
  rw [List.any_eq_true]
  exact ⟨_, List.mem_map.mpr ⟨k, List.mem_range.mpr hk, rfl⟩, by rw [eqv_words]; simp⟩
theorem words_notin (K : Fast L aw p lt refs nw o1 tlt tl) (N : News h₀ Lx s.heap news) (sub : ∀ q ∈ tl, q ∈ news) (hg : s.heap.IsList g vs.toArray) (hv : StrsAre vs (wset p k)) (hk : k < 16) (hu : A.units + 64 < cLine)
    (h : Q (.bool false) s) : wpAny (model prog w) A (compareOp .NotIn (.ref g) (.ref aw)) Q E s := by
  obtain ⟨as, ra⟩ := K.reads N sub
  obtain ⟨o, ho, hc, n, hd⟩ := K.isList N sub
  refine notIn_list_reads (.list ho hc hd ra) (reads_newData hg hv.carried) (wordsD_lay K.hp) (lay_strs (toS_ok K.hp)).1 ?_ ?_
  · have h1 : min (PyData.depthAll (wordsD p)) (strsD (wset p k)).depth ≤ 1 := Nat.le_trans (Nat.min_le_right _ _) (Nat.le_of_eq (lay_strs (toS_ok K.hp)).2)
    exact Nat.lt_of_le_of_lt (Nat.add_le_add_left h1 _) (by omega)
  · rw [words_any hk]; exact h
theorem words_index (K : Fast L aw p lt refs nw o1 tlt tl) (N : News h₀ Lx s.heap news) (sub : ∀ q ∈ tl, q ∈ news) (hg : s.heap.IsList g vs.toArray) (hv : StrsAre vs (wset p k)) (hk : k < 16) (hu : A.units + 64 < cLine)
    (h : Q (.int (k : Int) s.toks) { s with toks := s.toks + 1 }) : wpAny (model prog w) A (call (.builtin "list.index") [.ref aw, .ref g]) Q E s := by
  obtain ⟨as, ra⟩ := K.reads N sub
  have rg : Reads s.heap (.ref g) (strsD (wset p k)) _ := reads_newData hg hv.carried
  have lay := lay_strs (us := wset p k) (toS_ok K.hp)
  have hm := (N _ (sub _ K.mw)).1
  have rd : ∀ j (hj : j < refs.toArray.size), readOf s.heap refs.toArray[j] = strsD (wset p j) := fun j hj => by
    have hj' : j < 16 := by rw [List.size_toArray, K.len] at hj; exact hj
    obtain ⟨a, vs', e1, e2, e3⟩ := K.list N sub hj'
    have e : refs.toArray[j] = .ref a := by
      have := List.getElem?_eq_some_iff.mp e1
      obtain ⟨h1, h2⟩ := this
      simpa using h2
    rw [e]
    exact readOf_eq (lay_strs (toS_ok K.hp)).1 (reads_newData e2 e3.carried)
  refine call_meets PySem.F.slot_list_index ⟨_, hm, rfl⟩ PySem.F.entry_list_index (PySem.F.args_list_index_2 _ _)
    (list_indexAt aw refs.toArray nw _ _ (.ref g) (fun y => PyData.eqv (readOf s.heap y) (strsD (wset p k))) k (by rw [List.size_toArray, K.len]; exact hk) (by omega) ?_ ?_) ⟨hm, items_eqAt (xs := wordsD p) (by simpa using ra) rg (wordsD_lay K.hp) lay.1 ?_, h⟩
  · rw [rd, eqv_words]; simp
  · intro m hm1 hm2
    rw [rd, eqv_words]
    exact decide_eq_false fun e => absurd (wset_inj K.hp (Nat.lt_trans hm2 hk) hk e) (Nat.ne_of_lt hm2)
  · have h1 : min (PyData.depthAll (wordsD p)) (strsD (wset p k)).depth ≤ 1 := Nat.le_trans (Nat.min_le_right _ _) (Nat.le_of_eq lay.2)
    exact Nat.lt_of_le_of_lt (Nat.add_le_add_left h1 _) (by omega)
theorem ne_pair {a b a1 a2 b1 b2 : Addr} {xs1 xs2 ys1 ys2 : List Value} {u1 u2 v1 v2 : List Str} (ha : IsTup s.heap a [Value.ref a1, Value.ref a2].toArray) (hb : IsTup s.heap b [Value.ref b1, Value.ref b2].toArray)
    (h1 : s.heap.IsList a1 xs1.toArray) (h2 : s.heap.IsList a2 xs2.toArray) (h3 : s.heap.IsList b1 ys1.toArray) (h4 : s.heap.IsList b2 ys2.toArray) (s1 : StrsAre xs1 u1) (s2 : StrsAre xs2 u2) (s3 : StrsAre ys1 v1) (s4 : StrsAre ys2 v2)
    (k1 : ∀ w ∈ u1, PyData.strOk w = true) (k2 : ∀ w ∈ u2, PyData.strOk w = true) (k3 : ∀ w ∈ v1, PyData.strOk w = true) (k4 : ∀ w ∈ v2, PyData.strOk w = true) (hu : A.units + 64 < cLine)
    (e1 : u1 = v1) (e2 : u2 = v2) (h : Q (.bool false) s) : wpAny (model prog w) A (compareOp .NotEq (.ref a) (.ref b)) Q E s := by
  obtain ⟨oa, ga, ca, na, da⟩ := ha
  obtain ⟨ob, gb, cb, nb, db⟩ := hb
  have sh : ∀ {u v : List Str}, (∀ w ∈ u, PyData.strOk w = true) → (∀ w ∈ v, PyData.strOk w = true) → shaped (.tuple [strsD u, strsD v]) = true := fun {u v} hu hv => by
    have l1 := lay_strs hu
    have l2 := lay_strs hv
    unfold shaped
    have q1 : (PyData.tuple [strsD u, strsD v]).canLay0 = true := by
      show ((strsD u).canLay0 && ((strsD v).canLay0 && true)) = true
      rw [l1.1, l2.1]; rfl
    have q2 : (PyData.tuple [strsD u, strsD v]).depth ≤ 64 := by
      show max (strsD u).depth (max (strsD v).depth 0) + 1 ≤ 64
      rw [l1.2, l2.2]; decide
    rw [q1, decide_eq_true q2]; rfl
  refine ne_dataH (da := .tuple [strsD u1, strsD u2]) (db := .tuple [strsD v1, strsD v2]) (.tuple ga ca da (.cons (reads_newData h1 s1.carried) (.cons (reads_newData h2 s2.carried) .nil))) (.tuple gb cb db (.cons (reads_newData h3 s3.carried) (.cons (reads_newData h4 s4.carried) .nil))) (sh k1 k2) (sh k3 k4) hu ?_
  have e : PyData.eqv (.tuple [strsD u1, strsD u2]) (.tuple [strsD v1, strsD v2]) = true := by
    simp only [PyData.eqv, PyData.eqvAll, eqv_strs, e1, e2]; simp
  rw [e]; exact h
end
end Mine
end
section
open PySem PySem.W PyProof.Rows PySem.Calls
set_option Elab.async false
set_option maxRecDepth 100000
set_option maxHeartbeats 4000000
namespace Mine
theorem offLaw3 : True := by
  w_top off
  exact True.intro
local macro_rules | `(tactic| walk_at "pad 18 0") => `(tactic| fail)
local macro_rules | `(tactic| walk_at "pad 18 1") => `(tactic| fail)
local macro_rules | `(tactic| walk_at "pad 18 2") => `(tactic| fail)
local macro_rules | `(tactic| walk_at "pad 18 3") => `(tactic| fail)
local macro_rules | `(tactic| walk_at "pad 18 4") => `(tactic| fail)
local macro_rules | `(tactic| walk_at "pad 18 5") => `(tactic| fail)
local macro_rules | `(tactic| walk_at "pad 18 6") => `(tactic| fail)
local macro_rules | `(tactic| walk_at "pad 18 7") => `(tactic| fail)
local macro_rules | `(tactic| walk_at "pad 18 8") => `(tactic| fail)
local macro_rules | `(tactic| walk_at "pad 18 9") => `(tactic| fail)
local macro_rules | `(tactic| walk_at "pad 18 10") => `(tactic| fail)
local macro_rules | `(tactic| walk_at "pad 18 11") => `(tactic| fail)
local macro_rules | `(tactic| walk_at "pad 18 12") => `(tactic| fail)
local macro_rules | `(tactic| walk_at "pad 18 13") => `(tactic| fail)
local macro_rules | `(tactic| walk_at "pad 18 14") => `(tactic| fail)
local macro_rules | `(tactic| walk_at "pad 18 15") => `(tactic| fail)
local macro_rules | `(tactic| walk_at "pad 18 16") => `(tactic| fail)
theorem fill_k13 (w : World) (h : Heap) : (Mine.hd.heap_39 w.params).In h → Challenge.rw_tv0007_01.row.prog = Challenge.rw_tv0007_01.row.prog := by
  k_fill
  intro _
  rfl
local macro_rules | `(tactic| k_mem) => `(tactic| with_reducible assumption)
local macro_rules | `(tactic| k_all) => `(tactic| with_reducible assumption)
local macro_rules | `(tactic| walk_at "my steps") => `(tactic| repeat' (first | ((fail_if_success (with_reducible show wpAny _ _ (execs (List.drop _ _) _) _ _ _)); (fail_if_success (with_reducible show wpAny _ _ (execs (nth _ _ :: _) _) _ _ _)); (fail_if_success (with_reducible show wpAny _ _ (exec (Stmt.For _ _ _ _ _) _) _ _ _)); (fail_if_success (with_reducible show wpAny _ _ (call (Value.ref _) _) _ _ _)); (fail_if_success (with_reducible show wpAny _ _ (compareOp _ (Value.ref _) (Value.ref _)) _ _ _)); (fail_if_success (with_reducible show wpAny _ _ (subscriptTail _ _ (Value.ref _) _) _ _ _)); first | (k_unfold; (try dsimp only)) | (walk1 <;> (try dsimp only)) | (dsimp only; walk1) | (leave1; (try dsimp only)))))
theorem dup_strs : ∀ {vs : List Value} {us : List Str}, StrsAre vs us → StrsAre (dup vs) (us.flatMap fun v => [v, v])
  | _, _, .nil => .nil
  | _, _, .cons y t h => .cons y t (.cons y t (dup_strs h))
theorem dupS_strs {vs : List Value} {us : List Str} {q : Tok} (h : StrsAre vs us) : StrsAre (dup vs ++ [Value.str (Str.ofString "~") q]) (dupS us) := StrsAre.append' (dup_strs h) (.cons _ _ .nil)
theorem dupS_len (us : List Str) : (dupS us).length = 2 * us.length + 1 := by
  unfold dupS
  rw [List.length_append, List.length_singleton]
  congr 1
  induction us with
  | nil => rfl
  | cons a l ih => simp only [List.flatMap_cons, List.length_append, List.length_cons, List.length_nil] at ih ⊢; omega
theorem dupS_ok {us : List Str} (h : ∀ w ∈ us, PyData.strOk w = true) : ∀ w ∈ dupS us, PyData.strOk w = true := fun w hw => by
  unfold dupS at hw
  rcases List.mem_append.mp hw with hw | hw
  · obtain ⟨x, hx, hy⟩ := List.mem_flatMap.mp hw
    simp only [List.mem_cons, List.not_mem_nil, or_false, or_self] at hy
    rw [hy]; exact h x hx
  · rw [List.mem_singleton.mp hw]; exact strOk_of _
variable {w : World} {A : Around} {E : Value → Shared → Prop} {s : Shared} {h₀ : Heap} {L : Nat} {cd : Value × Addr} {mean : ExcName → Option Value} {mg mb m : Str → Option Value}
theorem law11 (W : Law w A h₀ L cd mean mg mb) {Q : Flow → Shared → Prop} {aw p nw ar nr : Nat} {lt : Int} {refs rvs : List Value} {row : List Nat} {o1 : Obj} {tlt : Tok} {tl news : List (Addr × Obj)}
    (K : Fast L aw p lt refs nw o1 tlt tl) (sub : ∀ q ∈ tl, q ∈ news) (F : Fr h₀ L s.heap m) (N : News h₀ L s.heap news) (mr : (ar, listOf rvs.toArray nr) ∈ news) (hr : IntsAre rvs (nI row)) (hlen : row.length = 16) (hlt : ∀ x ∈ row, x < 16)
    (S : Says m [(Str.ofString "words", .ref aw), (Str.ofString "row", .ref ar)])
    (hQ : ∀ h' tk m', Fr h₀ L h' m' → News h₀ L h' news → Says m' [(Str.ofString "words", .ref aw), (Str.ofString "row", .ref ar)] → wpAny (model PP w) A (execs (lawStmts.drop 17) (lawEnv L cd)) Q E { s with heap := h', toks := tk }) :
    wpAny (model PP w) A (execs (lawStmts.drop 11) (lawEnv L cd)) Q E s := by
  have X := W.X
  have T := W.T
  have hh := W.hh
  have TR := topRead_of T
  have hroom := W.hroom
  have F0 := F
  have F := fr_says F _ S
  dsimp only [kstB] at F
  clear F0
  have hrl : rvs.length = 16 := by have := hr.length; simp at this; omega
  have hr1 : row.getD 1 0 < 16 := by
    have : 1 < row.length := by omega
    rw [List.getD_eq_getElem?_getD, List.getElem?_eq_getElem this]
    exact hlt _ (List.getElem_mem this)
  have row1 : ∀ (h : Heap) (ns : List (Addr × Obj)), News h₀ L h ns → (ar, listOf rvs.toArray nr) ∈ ns → h.IsList ar rvs.toArray ∧ ∃ t, rvs[1]? = some (.int ((row.getD 1 0 : Nat) : Int) t) := fun h ns Nn mn => by
    refine ⟨Nn.isList mn, hr.get 1 _ ?_⟩
    have : 1 < row.length := by omega
    rw [List.getElem?_map, List.getD_eq_getElem?_getD, List.getElem?_eq_getElem this]; rfl
  generalize hrr : row.getD 1 0 = r at hr1 row1
  change wpAny _ _ (execs (_ :: _ :: _ :: _ :: _ :: _ :: lawStmts.drop 17) (envX _ { kind := _, names := _ :: _, isGenerator := _, isCoroutine := _, more := _ } L _ _ _)) _ _ _
  walk_at "my steps"
  refine words_item (k := 15) K (by exact N) sub (by rfl) (by decide) (fun a15 v15 n15 i15 hv15 => ?_)
  walk_at "my steps"
  refine twice_call (X.keeps F.keep) (T.keeps F.keep) hh (by omega) (N.isList (sub _ i15)) (by rw [hv15.len_eq]; have := wset_len p 15; omega) (fun h1 tk1 D1 n1 q1 hk1 hD1 hf1 hg1 => ?_)
  obtain ⟨F1, N1⟩ := plain_keep F N hk1 hf1 hg1
  clear F
  walk_at "my steps"
  rename Fr _ _ _ _ => F2
  rename News _ _ _ _ => N2
  obtain ⟨l1, t1, g1⟩ := row1 _ _ N2 (.tail _ mr)
  refine item_listL (by exact l1) (by decide) (by decide) (by exact g1) ?_
  walk_at "my steps"
  refine words_item (k := r) K (by exact N2) (fun q hq => .tail _ (sub q hq)) (by rfl) hr1 (fun ar1 vr nr1 ir hvr => ?_)
  walk_at "my steps"
  refine twice_call (X.keeps F2.keep) (T.keeps F2.keep) hh (by omega) (N2.isList (.tail _ (sub _ ir))) (by rw [hvr.len_eq]; have := wset_len p r; omega) (fun h3 tk3 D3 n3 q3 hk3 hD3 hf3 hg3 => ?_)
  obtain ⟨F3, N3⟩ := plain_keep F2 N2 hk3 hf3 hg3
  clear F2 N2
  walk_at "my steps"
  rename Fr _ _ _ _ => F4
  rename News _ _ _ _ => N4
  obtain ⟨l2, t2, g2⟩ := row1 _ _ N4 (.tail _ (.tail _ mr))
  refine item_listL (by exact l2) (by decide) (by decide) (by exact g2) ?_
  walk_at "my steps"
  refine words_item (k := 15 - r) K (by exact N4) (fun q hq => .tail _ (.tail _ (sub q hq))) (by omega) (by omega) (fun al vl nl il hvl => ?_)
  walk_at "my steps"
  rename Fr _ _ _ _ => F5
  rename News _ _ _ _ => N5
  have len15 : (dupS (wset p 15)).length < 2 ^ 20 := by rw [dupS_len]; have := wset_len p 15; omega
  have lenr : (dupS (wset p r)).length < 2 ^ 20 := by rw [dupS_len]; have := wset_len p r; omega
  have sT := sld_twice K.hp hr1
  have okw : ∀ k, ∀ x ∈ wset p k, PyData.strOk x = true := fun k => toS_ok K.hp
  have oke : ∀ x ∈ ([] : List Str), PyData.strOk x = true := fun x hx => nomatch hx
  refine sld_call (A := A) hh W.hfr (by rfl) (by rfl) (by omega) (by exact F5) (by exact N5) X T (N5.isList (.tail _ (.head _))) (dupS_strs hv15) (N5.isList (.head _)) (dupS_strs hvr) len15 lenr (fun h6 tk6 r6 am au ms us nm nu F6 N6 hms hus => ?_)
  rw [sT.1] at hms hus
  walk_at "my steps"
  rename Fr _ _ _ _ => F7
  rename News _ _ _ _ => N7
  refine ne_pair (N7.isTup (.tail _ (.tail _ (.head _)))) (N7.isTup (.head _)) (N7.isList (.tail _ (.tail _ (.tail _ (.head _))))) (N7.isList (.tail _ (.tail _ (.tail _ (.tail _ (.head _)))))) (N7.isList (.tail _ (.tail _ (.tail _ (.tail _ (.tail _ (.tail _ (.tail _ (sub _ il)))))))))
    (N7.isList (.tail _ (.head _))) hms hus hvl .nil (okw _) oke (okw _) oke W.hun rfl rfl ?_
  have N8 := News.sub N7 (fun q hq => .tail _ (.tail _ (.tail _ (.tail _ (.tail _ hq)))))
  clear N7
  walk_at "my steps"
  refine sld_call (A := A) hh W.hfr (by rfl) (by rfl) (by omega) (by exact F7) (by exact N8) X T (N8.isList (.head _)) (dupS_strs hvr) (N8.isList (.tail _ (.head _))) (dupS_strs hv15) lenr len15 (fun h9 tk9 r9 am9 au9 ms9 us9 nm9 nu9 F9 N9 hms9 hus9 => ?_)
  rw [sT.2] at hms9 hus9
  walk_at "my steps"
  rename Fr _ _ _ _ => F10
  rename News _ _ _ _ => N10
  refine ne_pair (N10.isTup (.tail _ (.tail _ (.head _)))) (N10.isTup (.head _)) (N10.isList (.tail _ (.tail _ (.tail _ (.head _))))) (N10.isList (.tail _ (.tail _ (.tail _ (.tail _ (.head _)))))) (N10.isList (.tail _ (.head _))) (N10.isList (.tail _ (.tail _ (.tail _ (.tail _ (.tail _ (.tail _ (.tail _ (sub _ il)))))))))
    hms9 hus9 .nil hvl oke (okw _) oke (okw _) W.hun rfl rfl ?_
  have N11 := News.sub N10 (fun q hq => .tail _ (.tail _ (.tail _ (.tail _ (.tail _ hq)))))
  clear N10
  walk_at "my steps"
  rename Fr _ _ _ _ => F12
  rename News _ _ _ _ => N12
  refine sld_call (A := A) hh W.hfr (by rfl) (by rfl) (by omega) (by exact F12) (by exact N12) X T (N12.isList (.tail _ (.head _))) (dupS_strs hvr) (N12.isList (.head _)) StrsAre.nil lenr (by decide) (fun h13 tk13 r13 am13 au13 ms13 us13 nm13 nu13 F13 N13 hms13 hus13 => ?_)
  rw [sld_nil_right] at hms13 hus13
  walk_at "my steps"
  rename Fr _ _ _ _ => F14
  rename News _ _ _ _ => N14
  refine ne_pair (N14.isTup (.tail _ (.tail _ (.head _)))) (N14.isTup (.head _)) (N14.isList (.tail _ (.tail _ (.tail _ (.head _))))) (N14.isList (.tail _ (.tail _ (.tail _ (.tail _ (.head _)))))) (N14.isList (.tail _ (.tail _ (.tail _ (.tail _ (.tail _ (.tail _ (.head _)))))))) (N14.isList (.tail _ (.head _)))
    hms13 hus13 (dupS_strs hvr) .nil (dupS_ok (okw _)) oke (dupS_ok (okw _)) oke W.hun rfl rfl ?_
  have N15 := News.sub N14 (b := news) (fun q hq => .tail _ (.tail _ (.tail _ (.tail _ (.tail _ (.tail _ (.tail _ (.tail _ hq))))))))
  clear N14
  walk_at "my steps"
  exact hQ _ _ _ F14 N15 ⟨by rfl, by rfl, trivial⟩
end Mine
end
section
open PySem PySem.W PyProof.Rows PySem.Calls
set_option Elab.async false
set_option maxRecDepth 100000
set_option maxHeartbeats 4000000
namespace Mine
theorem offLaw4 : True := by
  w_top off
  exact True.intro
local macro_rules | `(tactic| walk_at "pad 19 0") => `(tactic| fail)
local macro_rules | `(tactic| walk_at "pad 19 1") => `(tactic| fail)
local macro_rules | `(tactic| walk_at "pad 19 2") => `(tactic| fail)
local macro_rules | `(tactic| walk_at "pad 19 3") => `(tactic| fail)
local macro_rules | `(tactic| walk_at "pad 19 4") => `(tactic| fail)
local macro_rules | `(tactic| walk_at "pad 19 5") => `(tactic| fail)
local macro_rules | `(tactic| walk_at "pad 19 6") => `(tactic| fail)
local macro_rules | `(tactic| walk_at "pad 19 7") => `(tactic| fail)
local macro_rules | `(tactic| walk_at "pad 19 8") => `(tactic| fail)
local macro_rules | `(tactic| walk_at "pad 19 9") => `(tactic| fail)
local macro_rules | `(tactic| walk_at "pad 19 10") => `(tactic| fail)
local macro_rules | `(tactic| walk_at "pad 19 11") => `(tactic| fail)
local macro_rules | `(tactic| walk_at "pad 19 12") => `(tactic| fail)
local macro_rules | `(tactic| walk_at "pad 19 13") => `(tactic| fail)
local macro_rules | `(tactic| walk_at "pad 19 14") => `(tactic| fail)
local macro_rules | `(tactic| walk_at "pad 19 15") => `(tactic| fail)
theorem fill_k14 (w : World) (h : Heap) : (Mine.hd.heap_39 w.params).In h → Challenge.rw_tv0007_01.row.prog = Challenge.rw_tv0007_01.row.prog := by
  k_fill
  intro _
  rfl
local macro_rules | `(tactic| k_mem) => `(tactic| with_reducible assumption)
local macro_rules | `(tactic| k_all) => `(tactic| with_reducible assumption)
local macro_rules | `(tactic| walk_at "my steps") => `(tactic| repeat' (first | ((fail_if_success (with_reducible show wpAny _ _ (execs (List.drop _ _) _) _ _ _)); (fail_if_success (with_reducible show wpAny _ _ (execs (nth _ _ :: _) _) _ _ _)); (fail_if_success (with_reducible show wpAny _ _ (exec (Stmt.For _ _ _ _ _) _) _ _ _)); (fail_if_success (with_reducible show wpAny _ _ (call (Value.ref _) _) _ _ _)); (fail_if_success (with_reducible show wpAny _ _ (call (Value.builtin "list.index") _) _ _ _)); (fail_if_success (with_reducible show wpAny _ _ (call (Value.builtin "list.append") _) _ _ _)); (fail_if_success (with_reducible show wpAny _ _ (call (Value.builtin "sorted") _) _ _ _)); (fail_if_success (with_reducible show wpAny _ _ (compareOp _ (Value.ref _) (Value.ref _)) _ _ _)); (fail_if_success (with_reducible show wpAny _ _ (subscriptTail _ _ (Value.ref _) _) _ _ _)); first | (k_unfold; (try dsimp only)) | (walk1 <;> (try dsimp only)) | (dsimp only; walk1) | (leave1; (try dsimp only)))))
local macro_rules | `(tactic| walk_at "eval Name") => `(tactic| ((with_reducible show wpAny _ _ (eval (Expr.Name (Str.ofString "let") _) (envX _ _ _ _ _ _)) _ _ _); k_dflt (refine' nameX_C (c := _ + 1) ?N ?c ?m ?d ?_ ?a ?b; (case c => rfl); (case a => rfl); (case b => rfl); (case N => assumption); (case m => repeat (first | assumption | refine List.Mem.tail _ ?_)); (case d => assumption))))
local macro_rules | `(tactic| walk_at "getMethod ref") => `(tactic| ((with_reducible show wpAny _ _ (getMethod (Value.ref _) (PySem.Str.ofString "index") _) _ _ _); k_dflt (refine' listMethod_K ?N ?m PySem.F.slot_list_index PySem.F.type_list_index ?_; (case N => assumption); (case m => repeat (first | assumption | refine List.Mem.tail _ ?_)))))
noncomputable abbrev body18 : List Stmt := sBody (nth lawStmts 18)
noncomputable abbrev bodyIn : List Stmt := sBody (nth body18 1)
variable {w : World} {A : Around} {E : Value → Shared → Prop} {s : Shared} {h₀ : Heap} {L : Nat} {cd : Value × Addr} {mean : ExcName → Option Value} {mg mb m : Str → Option Value}
def EndIn (h₀ : Heap) (L : Nat) (lt : Int) (aw ar ak x y : Nat) (t1 : Tok) (news : List (Addr × Obj)) (s : Shared) (f : Flow) (s' : Shared) : Prop :=
  ∃ h' tk m', s' = { s with heap := h', toks := tk } ∧ Fr h₀ L h' m' ∧ News h₀ L h' news ∧ ((f = .next ∧ letP lt (y ^^^ x) = true ∧ Says m' [(Str.ofString "words", .ref aw), (Str.ofString "row", .ref ar), (Str.ofString "kept", .ref ak), (Str.ofString "one", .int (x : Nat) t1), (Str.ofString "fits", .bool true)]) ∨
    (f = .brk ∧ letP lt (y ^^^ x) = false ∧ Says m' [(Str.ofString "words", .ref aw), (Str.ofString "row", .ref ar), (Str.ofString "kept", .ref ak), (Str.ofString "one", .int (x : Nat) t1), (Str.ofString "fits", .bool false)]))
theorem inner_turn (W : Law w A h₀ L cd mean mg mb) {aw p nw ar ak x y : Nat} {lt : Int} {refs : List Value} {o1 : Obj} {tlt t1 t2 : Tok} {tl news : List (Addr × Obj)}
    (K : Fast L aw p lt refs nw o1 tlt tl) (sub : ∀ q ∈ tl, q ∈ news) (F : Fr h₀ L s.heap m) (N : News h₀ L s.heap news) (hx : x < 16) (hy : y < 16)
    (S : Says m [(Str.ofString "words", .ref aw), (Str.ofString "row", .ref ar), (Str.ofString "kept", .ref ak), (Str.ofString "one", .int (x : Nat) t1), (Str.ofString "fits", .bool true), (Str.ofString "other", .int (y : Nat) t2)]) :
    wpAny (model PP w) A (execs bodyIn (lawEnv L cd)) (EndIn h₀ L lt aw ar ak x y t1 news s) E s := by
  have X := W.X
  have T := W.T
  have hh := W.hh
  have TR := topRead_of T
  have hroom := W.hroom
  have F0 := F
  have F := fr_says F _ S
  dsimp only [kstB] at F
  clear F0
  have m1 := sub _ K.m1
  have d1 := K.d1
  have maw := sub _ K.mw
  change wpAny _ _ (execs (_ :: _ :: _) (envX _ { kind := _, names := _ :: _, isGenerator := _, isCoroutine := _, more := _ } L _ _ _)) _ _ _
  walk_at "my steps"
  refine words_item (k := y) K (by exact N) sub (by rfl) hy (fun a1 v1 n1 i1 hv1 => ?_)
  walk_at "my steps"
  refine words_item (k := x) K (by exact N) sub (by rfl) hx (fun a2 v2 n2 i2 hv2 => ?_)
  walk_at "my steps"
  refine sld_call (A := A) hh W.hfr (by rfl) (by rfl) (by omega) (by exact F) (by exact N) X T (N.isList (sub _ i1)) hv1 (N.isList (sub _ i2)) hv2 (by have := wset_len p y; omega) (by have := wset_len p x; omega) (fun h3 tk3 r am au ms us nm nu F3 N3 hms hus => ?_)
  rw [sld_sets K.hp hy hx] at hms hus
  obtain ⟨b1, b2, b3⟩ := bits_less y hy x hx
  have b4 : x &&& (15 ^^^ y) < 16 := (bits_less x hx y hy).1
  walk_at "my steps"
  rename Fr _ _ _ _ => F4
  rename News _ _ _ _ => N4
  refine unpackN_ F4 N4 (N4.isTup (.head _)) hh (by rfl) (by rfl) (fun h5 F5 N5 => ?_)
  walk_at "my steps"
  rename Fr _ _ _ _ => F6
  rename News _ _ _ _ => N6
  have okw : ∀ k, ∀ x ∈ wset p k, PyData.strOk x = true := fun k => toS_ok K.hp
  have iam := N6.isList (.tail _ (.tail _ (.head _)))
  have iau := N6.isList (.tail _ (.tail _ (.tail _ (.head _))))
  refine ne_pair (N6.isTup (.tail _ (.head _))) (N6.isTup (.head _)) iam iau iam iau hms hus hms hus (okw _) (okw _) (okw _) (okw _) W.hun rfl rfl ?_
  walk_at "my steps"
  refine words_notin K (by exact N6) (fun q hq => .tail _ (.tail _ (.tail _ (.tail _ (sub q hq))))) (by exact iam) hms b1 W.hun ?_
  walk_at "my steps"
  refine words_notin K (by exact N6) (fun q hq => .tail _ (.tail _ (.tail _ (.tail _ (sub q hq))))) (by exact iau) hus b4 W.hun ?_
  walk_at "my steps"
  refine words_index K (by exact N6) (fun q hq => .tail _ (.tail _ (.tail _ (.tail _ (sub q hq))))) (by exact iam) hms b1 W.hun ?_
  walk_at "my steps"
  rename Fr _ _ _ _ => F7
  rename News _ _ _ _ => N7
  have iau := N7.isList (.tail _ (.tail _ (.tail _ (.head _))))
  refine words_index K (by exact N7) (fun q hq => .tail _ (.tail _ (.tail _ (.tail _ (sub q hq))))) (by exact iau) hus b4 W.hun ?_
  walk_at "my steps"
  · rename_i q
    exact absurd b2 q
  rename Fr _ _ _ _ => F8
  rename News _ _ _ _ => N8
  have esum : ((y &&& (15 ^^^ x) : Nat) : Int) + ((x &&& (15 ^^^ y) : Nat) : Int) = ((y ^^^ x : Nat) : Int) := by rw [← b3]; simp
  have h16 := (xor16 y hy x hx).2
  rw [esum]
  refine is_let_call (X.keeps F8.keep) (T.keeps F8.keep) hh (by omega) K.lt0 K.lt1 (by omega) (by omega) (fun h9 tk9 b hk9 hb => ?_)
  rw [Int.toNat_natCast] at hb
  have hb' : b = letP lt (y ^^^ x) := hb
  have F9 : Fr h₀ L h9 _ := ⟨F8.ns.keeps hk9, fun b o e => hk9 b o (F8.keep b o e), F8.above⟩
  have N9 : News h₀ L h9 news := fun q hq => ⟨hk9 _ _ (N8 q (.tail _ (.tail _ (.tail _ (.tail _ hq))))).1, (N8 q (.tail _ (.tail _ (.tail _ (.tail _ hq))))).2⟩
  clear F8 N8
  dsimp only
  cases b with
  | true =>
    walk_at "my steps"
    exact ⟨h9, tk9, _, rfl, F9, N9, .inl ⟨rfl, hb'.symm, by rfl, by rfl, by rfl, by rfl, by rfl, trivial⟩⟩
  | false =>
    walk_at "my steps"
    rename Fr _ _ _ _ => F10
    rename News _ _ _ _ => N10
    exact ⟨_, _, _, rfl, F10, N10, .inr ⟨rfl, hb'.symm, by rfl, by rfl, by rfl, by rfl, by rfl, trivial⟩⟩
def JIn (lt : Int) (aw ar ak x : Nat) (t1 : Tok) (kept : List Nat) (base : List (Addr × Obj)) (j : Nat) (m : Str → Option Value) (news : List (Addr × Obj)) : Prop :=
  news = base ∧ (∀ q ∈ kept.take j, letP lt (q ^^^ x) = true) ∧ Says m [(Str.ofString "words", .ref aw), (Str.ofString "row", .ref ar), (Str.ofString "kept", .ref ak), (Str.ofString "one", .int (x : Nat) t1), (Str.ofString "fits", .bool true)]
def EndFor (h₀ : Heap) (L : Nat) (lt : Int) (aw ar ak x : Nat) (t1 : Tok) (kept : List Nat) (base : List (Addr × Obj)) (s s' : Shared) : Prop :=
  ∃ h' tk m' b, s' = { s with heap := h', toks := tk } ∧ Fr h₀ L h' m' ∧ News h₀ L h' base ∧ b = Lex.ok (letP lt) kept x ∧ Says m' [(Str.ofString "words", .ref aw), (Str.ofString "row", .ref ar), (Str.ofString "kept", .ref ak), (Str.ofString "one", .int (x : Nat) t1), (Str.ofString "fits", .bool b)]
theorem inner_for (W : Law w A h₀ L cd mean mg mb) {aw p nw ar ak nk x : Nat} {lt : Int} {refs kvs : List Value} {o1 : Obj} {tlt t1 : Tok} {tl base : List (Addr × Obj)} {kept : List Nat}
    (K : Fast L aw p lt refs nw o1 tlt tl) (sub : ∀ q ∈ tl, q ∈ base) (F : Fr h₀ L s.heap m) (N : News h₀ L s.heap base) (mk : (ak, listOf kvs.toArray nk) ∈ base) (hk : IntsAre kvs (nI kept)) (hx : x < 16) (hkx : ∀ y ∈ kept, y < 16)
    (S : Says m [(Str.ofString "words", .ref aw), (Str.ofString "row", .ref ar), (Str.ofString "kept", .ref ak), (Str.ofString "one", .int (x : Nat) t1), (Str.ofString "fits", .bool true)]) :
    wpAny (model PP w) A (exec (nth body18 1) (lawEnv L cd)) (fun f s' => f = .next ∧ EndFor h₀ L lt aw ar ak x t1 kept base s s') E s := by
  have X := W.X
  have T := W.T
  have hh := W.hh
  have TR := topRead_of T
  have F0 := F
  have F := fr_says F _ S
  dsimp only [kstB] at F
  have hkl : kvs.length = kept.length := by have := hk.length; simpa using this
  change wpAny _ _ (exec (Stmt.For (.Name _ _) _ bodyIn [] _) (envX _ { kind := _, names := _ :: _, isGenerator := _, isCoroutine := _, more := _ } L _ _ _)) _ _ _
  refine for_list (h₀ := h₀) (L := L) (m₀ := m) (news₀ := base) (vs := kvs) (ax := ak) (oax := listOf kvs.toArray nk) (JIn lt aw ar ak x t1 kept base) hh ?_ ?_ ?_ ⟨rfl, by simp, S⟩ (by intro I v; rfl) (by intro x; with_unfolding_all rfl) ?_ ?_
  · rintro i m' news ⟨rfl, _⟩; exact mk
  · rintro i m' news ⟨rfl, _⟩ q hq; exact .inr ⟨q, hq, rfl⟩
  · intro Q' hQ'
    walk_at "my steps"
    exact hQ' _ _ F0 N (N.isList mk) mk
  · rintro I j v h tk m' news o E' hj hv ⟨rfl, hall, S'⟩ off F1 N1
    obtain ⟨y, hy⟩ : ∃ y, kept[j]? = some y := ⟨kept[j]'(by omega), List.getElem?_eq_getElem _⟩
    have hym : y ∈ kept := List.mem_of_getElem? hy
    obtain ⟨ty, hty⟩ := hk.get j (y : Int) (by rw [List.getElem?_map, hy]; rfl)
    rw [hv] at hty; cases hty
    have hlen : j < kept.length := by omega
    refine store_x F1 N1 (by rfl) (by rfl) (by rfl) (fun h2 tk2 F2 N2 => ?_)
    have Z := inner_turn (E := E') (s := { s with heap := h2, toks := tk2 }) (ar := ar) (ak := ak) (x := x) (y := y) (t1 := t1) (t2 := ty) W K (fun q hq => .tail _ (sub q hq)) F2 N2 hx (hkx y hym) ⟨S'.1, S'.2.1, S'.2.2.1, S'.2.2.2.1, S'.2.2.2.2.1, by rfl, trivial⟩
    refine wpAny_mono Z (fun f s₃ h₃ => ?_) (fun _ _ x => x)
    obtain ⟨h4, tk4, m4, rfl, F4, N4, h5⟩ := h₃
    rcases h5 with ⟨rfl, hP, S4⟩ | ⟨rfl, hP, S4⟩
    · refine ⟨h4, tk4, m4, _, rfl, F4, N4, rfl, ?_, S4⟩
      intro q hq
      rw [List.take_add_one, hy] at hq
      rcases List.mem_append.mp hq with hq | hq
      · exact hall q hq
      · rw [List.mem_singleton.mp hq]; exact hP
    · refine ⟨rfl, h4, tk4, m4, false, rfl, F4, fun q hq => N4 q (.tail _ hq), ?_, S4⟩
      exact (Lex.ok_false.mpr ⟨y, hym, hP⟩).symm
  · rintro h tk m' news E' ⟨rfl, hall, S'⟩ F1 N1
    refine wpAny_execs_nil ⟨rfl, h, tk, m', true, rfl, F1, N1, ?_, S'⟩
    rw [hkl, List.take_length] at hall
    exact (Lex.ok_true.mpr hall).symm
end Mine
end
section
open PySem PySem.W PyProof.Rows PySem.Calls
set_option Elab.async false
set_option maxRecDepth 100000
set_option maxHeartbeats 4000000
namespace Mine
theorem offLaw5 : True := by
  w_top off
  exact True.intro
local macro_rules | `(tactic| walk_at "pad 20 0") => `(tactic| fail)
local macro_rules | `(tactic| walk_at "pad 20 1") => `(tactic| fail)
local macro_rules | `(tactic| walk_at "pad 20 2") => `(tactic| fail)
local macro_rules | `(tactic| walk_at "pad 20 3") => `(tactic| fail)
local macro_rules | `(tactic| walk_at "pad 20 4") => `(tactic| fail)
local macro_rules | `(tactic| walk_at "pad 20 5") => `(tactic| fail)
local macro_rules | `(tactic| walk_at "pad 20 6") => `(tactic| fail)
local macro_rules | `(tactic| walk_at "pad 20 7") => `(tactic| fail)
local macro_rules | `(tactic| walk_at "pad 20 8") => `(tactic| fail)
local macro_rules | `(tactic| walk_at "pad 20 9") => `(tactic| fail)
local macro_rules | `(tactic| walk_at "pad 20 10") => `(tactic| fail)
local macro_rules | `(tactic| walk_at "pad 20 11") => `(tactic| fail)
local macro_rules | `(tactic| walk_at "pad 20 12") => `(tactic| fail)
local macro_rules | `(tactic| walk_at "pad 20 13") => `(tactic| fail)
local macro_rules | `(tactic| walk_at "pad 20 14") => `(tactic| fail)
local macro_rules | `(tactic| walk_at "pad 20 15") => `(tactic| fail)
local macro_rules | `(tactic| walk_at "pad 20 16") => `(tactic| fail)
local macro_rules | `(tactic| walk_at "pad 20 17") => `(tactic| fail)
theorem fill_k15 (w : World) (h : Heap) : (Mine.hd.heap_39 w.params).In h → Challenge.rw_tv0007_01.row.prog = Challenge.rw_tv0007_01.row.prog := by
  k_fill
  intro _
  rfl
local macro_rules | `(tactic| k_mem) => `(tactic| with_reducible assumption)
local macro_rules | `(tactic| k_all) => `(tactic| with_reducible assumption)
local macro_rules | `(tactic| walk_at "my steps") => `(tactic| repeat' (first | ((fail_if_success (with_reducible show wpAny _ _ (execs (List.drop _ _) _) _ _ _)); (fail_if_success (with_reducible show wpAny _ _ (execs (nth _ _ :: _) _) _ _ _)); (fail_if_success (with_reducible show wpAny _ _ (exec (Stmt.For _ _ _ _ _) _) _ _ _)); (fail_if_success (with_reducible show wpAny _ _ (call (Value.ref _) _) _ _ _)); (fail_if_success (with_reducible show wpAny _ _ (call (Value.builtin "list.append") _) _ _ _)); (fail_if_success (with_reducible show wpAny _ _ (call (Value.builtin "sorted") _) _ _ _)); (fail_if_success (with_reducible show wpAny _ _ (compareOp _ (Value.ref _) (Value.ref _)) _ _ _)); (fail_if_success (with_reducible show wpAny _ _ (subscriptTail _ _ (Value.ref _) _) _ _ _)); first | (k_unfold; (try dsimp only)) | (walk1 <;> (try dsimp only)) | (dsimp only; walk1) | (leave1; (try dsimp only)))))
local macro_rules | `(tactic| walk_at "eval Name") => `(tactic| ((with_reducible show wpAny _ _ (eval (Expr.Name (Str.ofString "code") _) (envX _ _ _ _ _ _)) _ _ _); k_dflt (refine' nameX_C (c := _ + 4) ?N ?c ?m ?d ?_ ?a ?b; (case c => rfl); (case a => rfl); (case b => rfl); (case N => assumption); (case m => repeat (first | assumption | refine List.Mem.tail _ ?_)); (case d => assumption))))
variable {w : World} {A : Around} {E : Value → Shared → Prop} {s : Shared} {h₀ : Heap} {L : Nat} {cd : Value × Addr} {mean : ExcName → Option Value} {mg mb m : Str → Option Value}
abbrev says18 (aw ar ak : Nat) : List (Str × Value) := [(Str.ofString "words", .ref aw), (Str.ofString "row", .ref ar), (Str.ofString "kept", .ref ak)]
def J18 (lt : Int) (aw ar ak : Nat) (row : List Nat) (base : List (Addr × Obj)) (i : Nat) (m : Str → Option Value) (news : List (Addr × Obj)) : Prop :=
  ∃ kvs nk, news = (ak, listOf kvs.toArray nk) :: base ∧ IntsAre kvs (nI (Lex.greedy (letP lt) (row.take i))) ∧ Says m (says18 aw ar ak)
theorem greedy_sub (P : Nat → Bool) (row : List Nat) : ∀ x ∈ Lex.greedy P row, x ∈ row := by
  have h : ∀ (l k : List Nat) (x : Nat), x ∈ l.foldl (Lex.step P) k → x ∈ k ∨ x ∈ l := by
    intro l
    induction l with
    | nil => intro k x hx; exact .inl hx
    | cons a l ih =>
      intro k x hx
      rcases ih _ x hx with h | h
      · unfold Lex.step at h
        split at h
        · rcases List.mem_append.mp h with h | h
          · exact .inl h
          · exact .inr (by rw [List.mem_singleton.mp h]; exact .head _)
        · exact .inl h
      · exact .inr (.tail _ h)
  intro x hx
  rcases h row [] x hx with h | h
  · cases h
  · exact h
theorem greedy_len (P : Nat → Bool) (row : List Nat) : (Lex.greedy P row).length ≤ row.length := by
  have h : ∀ (l k : List Nat), (l.foldl (Lex.step P) k).length ≤ k.length + l.length := by
    intro l
    induction l with
    | nil => intro k; exact Nat.le_refl _
    | cons a l ih =>
      intro k
      refine Nat.le_trans (ih _) ?_
      unfold Lex.step
      split
      · simp only [List.length_append, List.length_cons, List.length_nil]; omega
      · simp only [List.length_cons]; omega
  have := h row []
  simpa [Lex.greedy] using this
theorem outer_turn (W : Law w A h₀ L cd mean mg mb) {aw p nw ar ak nk x i I : Nat} {lt : Int} {refs kvs : List Value} {o o1 : Obj} {tlt tx : Tok} {tl base : List (Addr × Obj)} {row : List Nat} {s0 : Shared}
    (hs : ∃ h tk, s = { s0 with heap := h, toks := tk }) (K : Fast L aw p lt refs nw o1 tlt tl) (sub : ∀ q ∈ tl, q ∈ base) (F : Fr h₀ L s.heap m) (N : News h₀ L s.heap ((I, o) :: (ak, listOf kvs.toArray nk) :: base))
    (hk : IntsAre kvs (nI (Lex.greedy (letP lt) (row.take i)))) (hrow : row.length = 16) (hlt : ∀ x ∈ row, x < 16) (hx : row[i]? = some x) (hIk : I ≠ ak) (hbk : ∀ q ∈ base, q.1 ≠ ak)
    (S : Says m (says18 aw ar ak)) :
    wpAny (model PP w) A (assign (.Name (Str.ofString "one") pos) (lawEnv L cd) (.int (x : Nat) tx)) (fun _ s₂ => wpAny (model PP w) A (execs body18 (lawEnv L cd)) (fun f s₃ => match f with
        | .next | .cont => Turn h₀ L s0 (I, o) (J18 lt aw ar ak row base (i + 1)) s₃
        | .brk => False
        | .ret _ => False) E s₂) E s := by
  obtain ⟨hp0, tk0, rfl⟩ := hs
  have X := W.X
  have T := W.T
  have hh := W.hh
  have TR := topRead_of T
  have hx16 : x < 16 := hlt x (List.mem_of_getElem? hx)
  have hkept : ∀ y ∈ Lex.greedy (letP lt) (row.take i), y < 16 := fun y hy => hlt y (List.mem_of_mem_take (greedy_sub _ _ y hy))
  have hklen : kvs.length ≤ 16 := by
    have h1 := hk.length
    have h2 := greedy_len (letP lt) (row.take i)
    rw [List.length_map] at h1
    rw [List.length_take] at h2
    omega
  have htake : row.take (i + 1) = row.take i ++ [x] := by rw [List.take_add_one, hx]; rfl
  generalize hQQ : (fun (f : Flow) (s₃ : Shared) => match f with
        | .next | .cont => Turn h₀ L s0 (I, o) (J18 lt aw ar ak row base (i + 1)) s₃
        | .brk => False
        | .ret _ => False) = QQ
  refine store_x F N (by rfl) (by rfl) (by rfl) (fun h1 tk1 F1 N1 => ?_)
  have S1 : Says (fun y => if y = Str.ofString "one" then some (Value.int (x : Nat) tx) else m y) [(Str.ofString "words", .ref aw), (Str.ofString "row", .ref ar), (Str.ofString "kept", .ref ak), (Str.ofString "one", .int (x : Nat) tx)] := ⟨S.1, S.2.1, S.2.2.1, by rfl, trivial⟩
  have F1' := fr_says F1 _ S1
  dsimp only [kstB] at F1'
  clear F1
  change wpAny _ _ (execs (Stmt.Assign _ _ _ :: nth body18 1 :: nth body18 2 :: []) (envX _ { kind := _, names := _ :: _, isGenerator := _, isCoroutine := _, more := _ } L _ _ _)) _ _ _
  walk_at "my steps"
  rename Fr _ _ _ _ => F2
  rename News _ _ _ _ => N2
  refine wpAny_execs_cons ?_
  refine wpAny_mono (inner_for (ar := ar) (t1 := tx) W K (fun q hq => .tail _ (.tail _ (sub q hq))) (by exact F2) (by exact N2) (.tail _ (.head _)) hk hx16 hkept ⟨by rfl, by rfl, by rfl, by rfl, by rfl, trivial⟩) (fun f s₃ h₃ => ?_) (fun _ _ q => q)
  obtain ⟨rfl, h4, tk4, m4, b, rfl, F4, N4, hb, S4⟩ := h₃
  have F5 := fr_says F4 _ S4
  dsimp only [kstB] at F5 ⊢
  change wpAny _ _ (execs (Stmt.If _ _ _ _ :: []) (envX _ { kind := _, names := _ :: _, isGenerator := _, isCoroutine := _, more := _ } L _ _ _)) _ _ _
  have hstep : Lex.greedy (letP lt) (row.take (i + 1)) = if b then Lex.greedy (letP lt) (row.take i) ++ [x] else Lex.greedy (letP lt) (row.take i) := by
    rw [htake, Lex.greedy_snoc, hb]; rfl
  clear F2 N2
  cases b with
  | true =>
    walk_at "my steps"
    refine append_x (pre := [(I, o)]) (post := base) (by exact F5) (by exact N4) (by intro q hq; rw [List.mem_singleton.mp hq]; exact hIk) hbk (Nat.le_trans hklen (by decide)) (fun h6 n6 F6 N6 => ?_)
    dsimp only [List.cons_append, List.nil_append] at N6
    walk_at "my steps"
    subst hQQ
    refine ⟨h6, _, _, _, rfl, F6, N6, kvs ++ [Value.int (x : Nat) tx], n6, rfl, ?_, by rfl, by rfl, by rfl, trivial⟩
    rw [hstep, if_pos rfl]
    unfold nI
    rw [List.map_append]
    exact hk.append (.cons _ _ .nil)
  | false =>
    walk_at "my steps"
    subst hQQ
    refine ⟨h4, _, _, _, rfl, F5, N4, kvs, nk, rfl, ?_, by rfl, by rfl, by rfl, trivial⟩
    rw [hstep, if_neg (by decide)]
    exact hk
end Mine
end
section
open PySem PySem.W PyProof.Rows PySem.Calls
set_option Elab.async false
set_option maxRecDepth 100000
set_option maxHeartbeats 4000000
namespace Mine
theorem offLaw6 : True := by
  w_top off
  exact True.intro
local macro_rules | `(tactic| walk_at "pad 21 0") => `(tactic| fail)
local macro_rules | `(tactic| walk_at "pad 21 1") => `(tactic| fail)
local macro_rules | `(tactic| walk_at "pad 21 2") => `(tactic| fail)
local macro_rules | `(tactic| walk_at "pad 21 3") => `(tactic| fail)
local macro_rules | `(tactic| walk_at "pad 21 4") => `(tactic| fail)
local macro_rules | `(tactic| walk_at "pad 21 5") => `(tactic| fail)
local macro_rules | `(tactic| walk_at "pad 21 6") => `(tactic| fail)
local macro_rules | `(tactic| walk_at "pad 21 7") => `(tactic| fail)
local macro_rules | `(tactic| walk_at "pad 21 8") => `(tactic| fail)
local macro_rules | `(tactic| walk_at "pad 21 9") => `(tactic| fail)
local macro_rules | `(tactic| walk_at "pad 21 10") => `(tactic| fail)
local macro_rules | `(tactic| walk_at "pad 21 11") => `(tactic| fail)
local macro_rules | `(tactic| walk_at "pad 21 12") => `(tactic| fail)
local macro_rules | `(tactic| walk_at "pad 21 13") => `(tactic| fail)
local macro_rules | `(tactic| walk_at "pad 21 14") => `(tactic| fail)
local macro_rules | `(tactic| walk_at "pad 21 15") => `(tactic| fail)
local macro_rules | `(tactic| walk_at "pad 21 16") => `(tactic| fail)
local macro_rules | `(tactic| walk_at "pad 21 17") => `(tactic| fail)
local macro_rules | `(tactic| walk_at "pad 21 18") => `(tactic| fail)
theorem fill_k16 (w : World) (h : Heap) : (Mine.hd.heap_39 w.params).In h → Challenge.rw_tv0007_01.row.prog = Challenge.rw_tv0007_01.row.prog := by
  k_fill
  intro _
  rfl
local macro_rules | `(tactic| k_mem) => `(tactic| with_reducible assumption)
local macro_rules | `(tactic| k_all) => `(tactic| with_reducible assumption)
local macro_rules | `(tactic| walk_at "my steps") => `(tactic| repeat' (first | ((fail_if_success (with_reducible show wpAny _ _ (execs (List.drop _ _) _) _ _ _)); (fail_if_success (with_reducible show wpAny _ _ (execs (nth _ _ :: _) _) _ _ _)); (fail_if_success (with_reducible show wpAny _ _ (exec (Stmt.For _ _ _ _ _) _) _ _ _)); (fail_if_success (with_reducible show wpAny _ _ (call (Value.ref _) _) _ _ _)); (fail_if_success (with_reducible show wpAny _ _ (call (Value.builtin "list.append") _) _ _ _)); (fail_if_success (with_reducible show wpAny _ _ (call (Value.builtin "sorted") _) _ _ _)); (fail_if_success (with_reducible show wpAny _ _ (compareOp _ (Value.ref _) (Value.ref _)) _ _ _)); (fail_if_success (with_reducible show wpAny _ _ (subscriptTail _ _ (Value.ref _) _) _ _ _)); first | (k_unfold; (try dsimp only)) | (walk1 <;> (try dsimp only)) | (dsimp only; walk1) | (leave1; (try dsimp only)))))
local macro_rules | `(tactic| walk_at "eval Name") => `(tactic| ((with_reducible show wpAny _ _ (eval (Expr.Name (Str.ofString "code") _) (envX _ _ _ _ _ _)) _ _ _); k_dflt (refine' nameX_C (c := _ + 4) ?N ?c ?m ?d ?_ ?a ?b; (case c => rfl); (case a => rfl); (case b => rfl); (case N => assumption); (case m => repeat (first | assumption | refine List.Mem.tail _ ?_)); (case d => assumption))))
theorem sorted_uniq {a b : List Int} (hp : a.Perm b) (h1 : a.Pairwise (· ≤ ·)) (h2 : b.Pairwise (· ≤ ·)) : a = b :=
  List.Perm.eq_of_pairwise (le := fun x y : Int => x ≤ y) (fun _ _ _ _ h1 h2 => Int.le_antisymm h1 h2) h1 h2 hp
variable {w : World} {A : Around} {E : Value → Shared → Prop} {s : Shared} {h₀ : Heap} {L : Nat} {cd : Value × Addr} {mean : ExcName → Option Value} {mg mb m : Str → Option Value}
theorem law17 (W : Law w A h₀ L cd mean mg mb) {Q : Flow → Shared → Prop} {aw p nw ar nr acd ncd : Nat} {lt : Int} {refs rvs cvs : List Value} {o1 o4 : Obj} {tlt : Tok} {tl base : List (Addr × Obj)} {row code : List Nat}
    (K : Fast L aw p lt refs nw o1 tlt tl) (sub : ∀ q ∈ tl, q ∈ base) (F : Fr h₀ L s.heap m) (N : News h₀ L s.heap base) (mr : (ar, listOf rvs.toArray nr) ∈ base) (hr : IntsAre rvs (nI row)) (hrow : row.length = 16) (hlt : ∀ x ∈ row, x < 16)
    (m4 : (L + 4, o4) ∈ base) (d4 : o4.data = .cell (some (.ref acd))) (mcd : (acd, listOf cvs.toArray ncd) ∈ base) (hc : IntsAre cvs (nI code)) (hcl : code.length ≤ 16) (hperm : code.Perm (Lex.greedy (letP lt) row))
    (hdata : ∀ q ∈ base, ∀ f, q.2.data ≠ .fields f) (S : Says m [(Str.ofString "words", .ref aw), (Str.ofString "row", .ref ar)])
    (hQ : ∀ h' tk m', Fr h₀ L h' m' → Q (.ret (.bool true)) { s with heap := h', toks := tk }) :
    wpAny (model PP w) A (execs (lawStmts.drop 17) (lawEnv L cd)) Q E s := by
  have X := W.X
  have T := W.T
  have hh := W.hh
  have TR := topRead_of T
  have F0 := F
  have F := fr_says F _ S
  dsimp only [kstB] at F
  clear F0
  have hrl : rvs.length = 16 := by have := hr.length; simp at this; omega
  change wpAny _ _ (execs (Stmt.Assign _ _ _ :: Stmt.For (.Name _ _) _ body18 [] _ :: nth lawStmts 19 :: []) (envX _ { kind := _, names := _ :: _, isGenerator := _, isCoroutine := _, more := _ } L _ _ _)) _ _ _
  walk_at "my steps"
  rename Fr _ _ _ _ => F2
  rename News _ _ _ _ => N2
  rename_i ak _ lk _
  have hbk : ∀ q ∈ base, q.1 ≠ ak := fun q hq => Nat.ne_of_lt (lk q hq)
  refine wpAny_mono (for_list (Q := fun f s' => f = .next ∧ ∃ h' tk m' news, s' = { s with heap := h', toks := tk } ∧ Fr h₀ L h' m' ∧ News h₀ L h' news ∧ J18 lt aw ar ak row base 16 m' news) (h₀ := h₀) (L := L) (m₀ := mOf F2) (news₀ := newsOf N2) (vs := rvs) (ax := ar) (oax := listOf rvs.toArray nr) (J18 lt aw ar ak row base) hh ?_ ?_ ?_ ?_ (by intro I v; rfl) (by intro x; with_unfolding_all rfl) ?_ ?_) ?_ (fun _ _ x => x)
  · rintro i m' news ⟨kvs, nk, rfl, _⟩; exact .tail _ mr
  · rintro i m' news ⟨kvs, nk, rfl, _⟩ q hq
    rcases List.mem_cons.mp hq with rfl | hq
    · exact .inl (fun f e => by cases e)
    · exact .inl (hdata q hq)
  · intro Q' hQ'
    walk_at "my steps"
    exact hQ' _ _ (by assumption) (by assumption) (News.isList N2 (.tail _ mr)) (.tail _ mr)
  · exact ⟨[], 0, rfl, .nil, by rfl, by rfl, by rfl, trivial⟩
  · rintro I i v h tk m' news o E' hi hv ⟨kvs, nk, rfl, hk, S'⟩ off F3 N3
    obtain ⟨x, hx⟩ : ∃ x, row[i]? = some x := ⟨row[i]'(by omega), List.getElem?_eq_getElem _⟩
    obtain ⟨tx, htx⟩ := hr.get i (x : Int) (by rw [List.getElem?_map, hx]; rfl)
    rw [hv] at htx; cases htx
    have Z := fun pos => outer_turn (pos := pos) (E := E') (s := { s with heap := h, toks := tk }) (s0 := s) (tx := tx) W ⟨_, _, rfl⟩ K sub F3 N3 hk hrow hlt hx (Ne.symm (off _ (.head _))) hbk S'
    refine wpAny_mono (Z _) (fun _ s₂ h₂ => wpAny_mono h₂ (fun f s₃ h₃ => ?_) (fun _ _ x => x)) (fun _ _ x => x)
    cases f with
    | next => exact h₃
    | cont => exact h₃
    | brk => exact h₃.elim
    | ret v => exact h₃.elim
  · intro h tk m' news E' hJ F3 N3
    rw [hrl] at hJ
    exact wpAny_execs_nil ⟨rfl, h, tk, m', news, rfl, F3, N3, hJ⟩
  · rintro f s' ⟨rfl, h3, tk3, m3, news, rfl, F3, N3, kvs, nk, rfl, hk, S3⟩
    rw [show row.take 16 = row by rw [List.take_of_length_le (by omega)]] at hk
    have F4 := fr_says F3 _ S3
    dsimp only [kstB] at F4
    have hkl := greedy_len (letP lt) row
    change wpAny _ _ (execs (Stmt.Return _ _ :: []) (envX _ { kind := _, names := _ :: _, isGenerator := _, isCoroutine := _, more := _ } L _ _ _)) _ _ _
    walk_at "my steps"
    refine kso_sorted (by exact F4) (by exact N3) (N3.isList (.head _)) hk (by rw [List.length_map]; omega) (fun D5 v5 n5 c5 h5 F5 N5 l5 i5 e5 p5 o5 _ => ?_)
    walk_at "my steps"
    refine kso_sorted (by exact F5) (by exact N5) (N5.isList (.tail _ (.tail _ mcd))) hc (by rw [List.length_map]; omega) (fun D6 v6 n6 c6 h6 F6 N6 l6 i6 e6 p6 o6 _ => ?_)
    walk_at "my steps"
    refine ke_eq_ints (N6.isList (.tail _ (.head _))) (N6.isList (.head _)) i5 i6 W.hun ?_
    have e : n5 = n6 := sorted_uniq (p5.trans (((hperm.map _).symm).trans p6.symm)) o5 o6
    rw [decide_eq_true e]
    walk_at "my steps"
    exact hQ _ _ _ F6
end Mine
end
section
open PySem PySem.W PyProof.Rows PySem.Calls
set_option Elab.async false
set_option maxRecDepth 100000
set_option maxHeartbeats 4000000
namespace Mine
theorem offLaw0 : True := by
  w_top off
  exact True.intro
local macro_rules | `(tactic| walk_at "pad 22 0") => `(tactic| fail)
local macro_rules | `(tactic| walk_at "pad 22 1") => `(tactic| fail)
local macro_rules | `(tactic| walk_at "pad 22 2") => `(tactic| fail)
local macro_rules | `(tactic| walk_at "pad 22 3") => `(tactic| fail)
local macro_rules | `(tactic| walk_at "pad 22 4") => `(tactic| fail)
local macro_rules | `(tactic| walk_at "pad 22 5") => `(tactic| fail)
local macro_rules | `(tactic| walk_at "pad 22 6") => `(tactic| fail)
local macro_rules | `(tactic| walk_at "pad 22 7") => `(tactic| fail)
local macro_rules | `(tactic| walk_at "pad 22 8") => `(tactic| fail)
local macro_rules | `(tactic| walk_at "pad 22 9") => `(tactic| fail)
local macro_rules | `(tactic| walk_at "pad 22 10") => `(tactic| fail)
local macro_rules | `(tactic| walk_at "pad 22 11") => `(tactic| fail)
local macro_rules | `(tactic| walk_at "pad 22 12") => `(tactic| fail)
local macro_rules | `(tactic| walk_at "pad 22 13") => `(tactic| fail)
local macro_rules | `(tactic| walk_at "pad 22 14") => `(tactic| fail)
local macro_rules | `(tactic| walk_at "pad 22 15") => `(tactic| fail)
local macro_rules | `(tactic| walk_at "pad 22 16") => `(tactic| fail)
local macro_rules | `(tactic| walk_at "pad 22 17") => `(tactic| fail)
local macro_rules | `(tactic| walk_at "pad 22 18") => `(tactic| fail)
local macro_rules | `(tactic| walk_at "pad 22 19") => `(tactic| fail)
local macro_rules | `(tactic| walk_at "pad 22 20") => `(tactic| fail)
theorem fill_k17 (w : World) (h : Heap) : (Mine.hd.heap_39 w.params).In h → Challenge.rw_tv0007_01.row.prog = Challenge.rw_tv0007_01.row.prog := by
  k_fill
  intro _
  rfl
local macro_rules | `(tactic| k_mem) => `(tactic| with_reducible assumption)
local macro_rules | `(tactic| k_all) => `(tactic| with_reducible assumption)
local macro_rules | `(tactic| walk_at "my steps") => `(tactic| repeat' (first | ((fail_if_success (with_reducible show wpAny _ _ (execs (List.drop _ _) _) _ _ _)); (fail_if_success (with_reducible show wpAny _ _ (execs (nth _ _ :: _) _) _ _ _)); (fail_if_success (with_reducible show wpAny _ _ (exec (Stmt.For _ _ _ _ _) _) _ _ _)); (fail_if_success (with_reducible show wpAny _ _ (call (Value.ref _) _) _ _ _)); (fail_if_success (with_reducible show wpAny _ _ (call (Value.builtin "len") _) _ _ _)); (fail_if_success (with_reducible show wpAny _ _ (setItem (Value.ref _) _ _) _ _ _)); (fail_if_success (with_reducible show wpAny _ _ (subscriptTail _ _ (Value.ref _) _) _ _ _)); first | (k_unfold; (try dsimp only)) | (walk1 <;> (try dsimp only)) | (dsimp only; walk1) | (leave1; (try dsimp only)))))
variable {w : World} {A : Around} {E : Value → Shared → Prop} {s : Shared} {h₀ : Heap} {L : Nat} {cd : Value × Addr} {mean : ExcName → Option Value} {mg mb m : Str → Option Value}
def J1 (ac sc B0 : Nat) (base : List (Addr × Obj)) (i : Nat) (m : Str → Option Value) (news : List (Addr × Obj)) : Prop :=
  ∃ cvs cs n, news = (ac, listOf cvs.toArray n) :: base ∧ IntsAre cvs cs ∧ cs.length = 6 ∧ (∀ c ∈ cs, c.natAbs ≤ 65256 + i * 2 ^ B0) ∧ Says m [(Str.ofString "script", .ref sc), (Str.ofString "cells", .ref ac)]
theorem cells_turn (W : Law w A h₀ L cd mean mg mb) {ac sc B0 I i : Nat} {o : Obj} {tk : Tok} {base : List (Addr × Obj)} {svs cvs : List Value} {ns cs : List Int} {n : Nat} {s0 : Shared}
    (hs : ∃ h tk, s = { s0 with heap := h, toks := tk }) (F : Fr h₀ L s.heap m) (N : News h₀ L s.heap ((I, o) :: (ac, listOf cvs.toArray n) :: base))
    (hl : h₀.IsList sc svs.toArray) (hi : IntsAre svs ns) (hlen : ns.length ≤ 63) (hM : ∀ z ∈ ns, z.natAbs < 2 ^ B0) (hik : i < ns.length)
    (hc : IntsAre cvs cs) (hcl : cs.length = 6) (hcb : ∀ c ∈ cs, c.natAbs ≤ 65256 + i * 2 ^ B0) (hIa : I ≠ ac) (hb : ∀ q ∈ base, q.1 ≠ ac)
    (S : Says m [(Str.ofString "script", .ref sc), (Str.ofString "cells", .ref ac)]) :
    wpAny (model PP w) A (assign (.Name (Str.ofString "k") pos) (lawEnv L cd) (.int (i : Nat) tk)) (fun _ s₂ => wpAny (model PP w) A (execs (sBody (nth lawStmts 1)) (lawEnv L cd)) (fun f s₃ => match f with
        | .next | .cont => Turn h₀ L s0 (I, o) (J1 ac sc B0 base (i + 1)) s₃
        | .brk => False
        | .ret _ => False) E s₂) E s := by
  obtain ⟨hp0, tk0, rfl⟩ := hs
  have X := W.X
  have T := W.T
  have hh := W.hh
  have TR := topRead_of T
  generalize hQQ : (fun (f : Flow) (s₃ : Shared) => match f with
        | .next | .cont => Turn h₀ L s0 (I, o) (J1 ac sc B0 base (i + 1)) s₃
        | .brk => False
        | .ret _ => False) = QQ
  refine store_x F N (by rfl) (by rfl) (by rfl) (fun h1 tk1 F1 N1 => ?_)
  have S1 : Says (fun y => if y = Str.ofString "k" then some (Value.int (i : Nat) tk) else m y) [(Str.ofString "script", .ref sc), (Str.ofString "cells", .ref ac), (Str.ofString "k", .int (i : Nat) tk)] := ⟨S.1, S.2.1, by rfl, trivial⟩
  have F2 := fr_says F1 _ S1
  dsimp only [kstB] at F2
  clear F1 F
  have hk0 : (0 : Int) ≤ (i : Int) := by omega
  have hk1 : (i : Int) < 64 := by omega
  have hf0 : (0 : Int) ≤ Int.fmod (i : Int) 6 := Int.fmod_nonneg_of_pos _ (by decide)
  have hf1 : Int.fmod (i : Int) 6 < 6 := Int.fmod_lt_of_pos _ (by decide)
  change wpAny _ _ (execs (_ :: []) (envX _ { kind := _, names := _ :: _, isGenerator := _, isCoroutine := _, more := _ } L _ _ _)) _ _ _
  walk_at "my steps"
  refine item_list_ints (by exact N1.isList (.tail _ (.head _))) hc hf0 (by rw [hcl]; exact hf1) (by omega) (fun t3 => ?_)
  walk_at "my steps"
  refine item_list_ints (by exact hl.at fun o e => F2.keep _ o e) hi hk0 (by omega) (by omega) (fun t4 => ?_)
  walk_at "my steps"
  refine ksa_set (by exact F2) (by exact N1) (.tail hIa (.head hb)) hc hf0 (by rw [hcl]; exact hf1) (by omega) (fun h5 F5 N5 hi5 hl5 _ => ?_)
  walk_at "my steps"
  subst hQQ
  refine ⟨h5, _, _, _, rfl, F5, N5, _, _, n, rfl, hi5, by rw [hl5, hcl], ?_, by rfl, by rfl, trivial⟩
  have hxi : ns.getD (i : Int).toNat 0 ∈ ns := by
    rw [Int.toNat_natCast, List.getD_eq_getElem?_getD, List.getElem?_eq_getElem hik]
    exact List.getElem_mem hik
  have hlk : ((i : Int).fmod 6).toNat < cs.length := by rw [hcl]; omega
  have hxc : cs.getD ((i : Int).fmod 6).toNat 0 ∈ cs := by
    rw [List.getD_eq_getElem?_getD, List.getElem?_eq_getElem hlk]
    exact List.getElem_mem hlk
  have q1 := hcb _ hxc
  have q2 := hM _ hxi
  have q3 : (i + 1) * 2 ^ B0 = i * 2 ^ B0 + 2 ^ B0 := Nat.succ_mul _ _
  intro c hcm
  rcases List.mem_or_eq_of_mem_set hcm with h | rfl
  · have := hcb c h
    rw [q3]; omega
  · have := Int.natAbs_add_le (cs.getD ((i : Int).fmod 6).toNat 0) (ns.getD (i : Int).toNat 0)
    rw [q3]; omega
theorem law0 (W : Law w A h₀ L cd mean mg mb) {Q : Flow → Shared → Prop} {sc B0 : Nat} {o1 o2 o3 o4 o5 o6 : Obj} {svs : List Value} {ns : List Int}
    (F : Fr h₀ L s.heap m) (N : News h₀ L s.heap [(L + 1, o1), (L + 2, o2), (L + 3, o3), (L + 4, o4), (L + 5, o5), (L + 6, o6)])
    (d1 : ∃ v, o1.data = .cell v) (d2 : ∃ v, o2.data = .cell v) (d3 : ∃ v, o3.data = .cell v) (d4 : ∃ v, o4.data = .cell v) (d5 : ∃ v, o5.data = .cell v) (d6 : ∃ v, o6.data = .cell v)
    (hl : h₀.IsList sc svs.toArray) (hi : IntsAre svs ns) (hlen : ns.length ≤ 63) (hM : ∀ z ∈ ns, z.natAbs < 2 ^ B0)
    (S : Says m [(Str.ofString "script", .ref sc)])
    (hQ : ∀ h' tk m' (ac : Nat) cvs cs n, Fr h₀ L h' m' → News h₀ L h' [(ac, listOf cvs.toArray n), (L + 1, o1), (L + 2, o2), (L + 3, o3), (L + 4, o4), (L + 5, o5), (L + 6, o6)] → L + 6 < ac → IntsAre cvs cs → cs.length = 6 → (∀ c ∈ cs, c.natAbs ≤ 65256 + 63 * 2 ^ B0) →
      Says m' [(Str.ofString "cells", .ref ac)] → wpAny (model PP w) A (execs (lawStmts.drop 2) (lawEnv L cd)) Q E { s with heap := h', toks := tk }) :
    wpAny (model PP w) A (execs lawStmts (lawEnv L cd)) Q E s := by
  have X := W.X
  have T := W.T
  have hh := W.hh
  have TR := topRead_of T
  have F0 := F
  have F := fr_says F _ S
  dsimp only [kstB] at F
  clear F0
  have hsl : svs.length ≤ 63 := by rw [hi.length]; exact hlen
  change wpAny _ _ (execs (Stmt.Assign _ _ _ :: Stmt.For (.Name _ _) _ (sBody (nth lawStmts 1)) [] _ :: lawStmts.drop 2) (envX _ { kind := _, names := _ :: _, isGenerator := _, isCoroutine := _, more := _ } L _ _ _)) _ _ _
  walk_at "my steps"
  rename Fr _ _ _ _ => F2
  rename News _ _ _ _ => N2
  rename_i ac _ lac _
  have hb : ∀ q ∈ [(L + 1, o1), (L + 2, o2), (L + 3, o3), (L + 4, o4), (L + 5, o5), (L + 6, o6)], q.1 ≠ ac := fun q hq => by
    simp only [List.mem_cons, List.not_mem_nil, or_false] at hq
    obtain ⟨k1, k2, k3, k4, k5, k6⟩ := lac
    rcases hq with rfl | rfl | rfl | rfl | rfl | rfl
    · exact Nat.ne_of_lt k1
    · exact Nat.ne_of_lt k2
    · exact Nat.ne_of_lt k3
    · exact Nat.ne_of_lt k4
    · exact Nat.ne_of_lt k5
    · exact Nat.ne_of_lt k6
  have hdc : ∀ q ∈ [(L + 1, o1), (L + 2, o2), (L + 3, o3), (L + 4, o4), (L + 5, o5), (L + 6, o6)], ∀ f, q.2.data ≠ .fields f := fun q hq f e => by
    simp only [List.mem_cons, List.not_mem_nil, or_false] at hq
    obtain ⟨_, d1⟩ := d1; obtain ⟨_, d2⟩ := d2; obtain ⟨_, d3⟩ := d3; obtain ⟨_, d4⟩ := d4; obtain ⟨_, d5⟩ := d5; obtain ⟨_, d6⟩ := d6
    rcases hq with rfl | rfl | rfl | rfl | rfl | rfl
    · rw [d1] at e; cases e
    · rw [d2] at e; cases e
    · rw [d3] at e; cases e
    · rw [d4] at e; cases e
    · rw [d5] at e; cases e
    · rw [d6] at e; cases e
  refine wpAny_mono (for_range (Q := fun f s' => f = .next ∧ ∃ h' tk m' news, s' = { s with heap := h', toks := tk } ∧ Fr h₀ L h' m' ∧ News h₀ L h' news ∧ J1 ac sc B0 [(L + 1, o1), (L + 2, o2), (L + 3, o3), (L + 4, o4), (L + 5, o5), (L + 6, o6)] ns.length m' news) (h₀ := h₀) (L := L) (m₀ := mOf F2) (news₀ := newsOf N2) (a := 0) (b := (ns.length : Int)) (n := ns.length) (J1 ac sc B0 [(L + 1, o1), (L + 2, o2), (L + 3, o3), (L + 4, o4), (L + 5, o5), (L + 6, o6)]) hh
    (small_one (by decide) (by decide) (by omega) (by omega)) (by rw [rangeSize_nat]; simp) ?_ ?_ ?_ (by intro I v; rfl) (by intro x; with_unfolding_all rfl) ?_ ?_) ?_ (fun _ _ x => x)
  · rintro i m' news ⟨cvs, cs, n, rfl, _⟩ q hq
    rcases List.mem_cons.mp hq with rfl | hq
    · exact .inl (fun f e => by cases e)
    · exact .inl (hdc q hq)
  · intro Q' hQ'
    walk_at "my steps"
    refine len_list (by exact hl.at fun o e => Fr.keep F2 _ o e) (by rw [List.size_toArray]; omega) ?_
    rw [List.size_toArray, hi.length]
    walk_at "my steps"
    exact hQ' _ _ _ _ _ _ (by assumption) (by assumption) (by assumption)
  · refine ⟨_, [7, 11, 13, 14, 65256, 8], 0, rfl, ?_, rfl, ?_, by rfl, by rfl, trivial⟩
    · exact .cons _ _ (.cons _ _ (.cons _ _ (.cons _ _ (.cons _ _ (.cons _ _ .nil)))))
    · intro c hcm
      rw [Nat.zero_mul]
      simp only [List.mem_cons, List.not_mem_nil, or_false] at hcm
      rcases hcm with rfl | rfl | rfl | rfl | rfl | rfl <;> decide
  · rintro I i t h tk m' news o E' hik ⟨cvs, cs, n, rfl, hc, hcl, hcb, S'⟩ off F3 N3
    rw [Int.zero_add]
    have Z := fun pos => cells_turn (pos := pos) (E := E') (s := { s with heap := h, toks := tk }) (s0 := s) (tk := t) W ⟨_, _, rfl⟩ F3 N3 hl hi hlen hM hik hc hcl hcb (Ne.symm (off _ (.head _))) hb S'
    refine wpAny_mono (Z _) (fun _ s₂ h₂ => wpAny_mono h₂ (fun f s₃ h₃ => ?_) (fun _ _ x => x)) (fun _ _ x => x)
    cases f with
    | next => exact h₃
    | cont => exact h₃
    | brk => exact h₃.elim
    | ret v => exact h₃.elim
  · intro h tk m' news E' hJ F3 N3
    exact wpAny_execs_nil ⟨rfl, h, tk, m', news, rfl, F3, N3, hJ⟩
  · rintro f s' ⟨rfl, h3, tk3, m3, news, rfl, F3, N3, cvs, cs, n, rfl, hc, hcl, hcb, S3⟩
    exact hQ h3 tk3 m3 ac cvs cs n F3 N3 lac.2.2.2.2.2 hc hcl (fun c hcm => Nat.le_trans (hcb c hcm) (Nat.add_le_add_left (Nat.mul_le_mul_right _ hlen) _)) ⟨S3.2.1, trivial⟩
end Mine
end
section
open PySem PySem.W PyProof.Rows PySem.Calls
set_option Elab.async false
set_option maxRecDepth 100000
set_option maxHeartbeats 4000000
namespace Mine
theorem offLawAll : True := by
  w_top off
  exact True.intro
theorem share_bound {c : Int} {B0 : Nat} (h : c.natAbs ≤ 65256 + 63 * 2 ^ B0) : (c.fdiv 29 * 2 ^ 32).natAbs < 2 ^ (B0 + 48) := by
  have h1 : (c.fdiv 29).natAbs ≤ c.natAbs + 1 := by
    have := Int.fdiv_eq_ediv_of_nonneg c (b := 29) (by decide)
    rw [this]; omega
  have hp : 0 < 2 ^ B0 := Nat.pow_pos (by decide)
  have h2 : (c.fdiv 29).natAbs < 2 ^ 16 * 2 ^ B0 := by
    have : 2 ^ 16 * 2 ^ B0 = 65536 * 2 ^ B0 := rfl
    rw [this]; omega
  rw [Int.natAbs_mul]
  have h3 : ((2 : Int) ^ 32).natAbs = 2 ^ 32 := by decide
  rw [h3, show B0 + 48 = (16 + B0) + 32 by omega, Nat.pow_add, Nat.pow_add]
  exact Nat.mul_lt_mul_of_pos_right h2 (by decide)
variable {w : World} {A : Around} {E : Value → Shared → Prop} {s : Shared} {h₀ : Heap} {L : Nat} {cd : Value × Addr} {mean : ExcName → Option Value} {mg mb m : Str → Option Value}
theorem law_all (W : Law w A h₀ L cd mean mg mb) {Q : Flow → Shared → Prop} {sc B0 : Nat} {o1 o2 o3 o4 o5 o6 : Obj} {svs : List Value} {ns : List Int}
    (F : Fr h₀ L s.heap m) (N : News h₀ L s.heap [(L + 1, o1), (L + 2, o2), (L + 3, o3), (L + 4, o4), (L + 5, o5), (L + 6, o6)])
    (d1 : o1.data = .cell none) (d2 : o2.data = .cell none) (d3 : o3.data = .cell none) (d4 : o4.data = .cell none) (d5 : o5.data = .cell none) (d6 : o6.data = .cell none)
    (hl : h₀.IsList sc svs.toArray) (hi : IntsAre svs ns) (hlen : ns.length ≤ 63) (hM : ∀ z ∈ ns, z.natAbs < 2 ^ B0) (hB0 : B0 ≤ 1048576)
    (S : Says m [(Str.ofString "script", .ref sc)])
    (hQ : ∀ h' tk m', Fr h₀ L h' m' → Q (.ret (.bool true)) { s with heap := h', toks := tk }) :
    wpAny (model PP w) A (execs lawStmts (lawEnv L cd)) Q E s := by
  refine law0 W F N ⟨_, d1⟩ ⟨_, d2⟩ ⟨_, d3⟩ ⟨_, d4⟩ ⟨_, d5⟩ ⟨_, d6⟩ hl hi hlen hM S (fun h1 tk1 m1 ac cvs cs nc F1 N1 hac hc hcl hcb S1 => ?_)
  have hc5 : cs.getD (Int.toNat 5) 0 ∈ cs := by
    have : Int.toNat 5 < cs.length := by rw [hcl]; decide
    rw [List.getD_eq_getElem?_getD, List.getElem?_eq_getElem this]
    exact List.getElem_mem this
  have hB := share_bound (hcb _ hc5)
  have hpl0 : 0 ≤ (cs.getD (Int.toNat 5) 0).fmod 29 := Int.fmod_nonneg_of_pos _ (by decide)
  have hpl1 : (cs.getD (Int.toNat 5) 0).fmod 29 < 29 := Int.fmod_lt_of_pos _ (by decide)
  have hlt0 : 0 ≤ (cs.getD (Int.toNat 4) 0).fmod 65536 := Int.fmod_nonneg_of_pos _ (by decide)
  have hlt1 : (cs.getD (Int.toNat 4) 0).fmod 65536 < 65536 := Int.fmod_lt_of_pos _ (by decide)
  obtain ⟨p, hp⟩ : ∃ p : Nat, (cs.getD (Int.toNat 5) 0).fmod 29 = (p : Int) := ⟨((cs.getD (Int.toNat 5) 0).fmod 29).toNat, by omega⟩
  have hp29 : p < 29 := by omega
  generalize hlt : (cs.getD (Int.toNat 4) 0).fmod 65536 = lt at hlt0 hlt1
  generalize hsh : (cs.getD (Int.toNat 5) 0).fdiv 29 = share at hB
  refine law2 W S1 F1 N1 hac hc hcl hp hsh hlt d1 d2 d3 d4 d5 d6 (fun h2 tk2 m2 an aw nvs nn o1' o2' tp ts tl F2 N2 e1 e2 hnv S2 lan law => ?_)
  have hnv' : StrsAre nvs (names4 p) := by rw [Int.toNat_natCast] at hnv; exact hnv
  have cl : ∀ {a b : Nat}, L + a ≠ b → ¬ (b = L + a) := fun h e => h e.symm
  have haw : L + 6 < aw := by omega
  refine law7 (tl := [(an, listOf nvs.toArray nn), (ac, listOf cvs.toArray nc), (L + 1, o1'), (L + 2, o2'), (L + 4, o4), (L + 5, o5), (L + 6, o6)]) (o3 := o3) (nw := 0) (B := B0 + 48) W F2 (News.sub N2 ?_) hp29 d3 (.tail _ (.tail _ (.tail _ (.head _)))) (.head _) e2 hnv' haw ?_ S2 hB (by omega) (fun s' h7 => ?_)
  · intro q hq
    simp only [List.mem_cons, List.not_mem_nil, or_false] at hq ⊢
    rcases hq with h | h | h | h | h | h | h | h | h <;> simp [h]
  · intro q hq
    simp only [List.mem_cons, List.not_mem_nil, or_false] at hq
    rcases hq with rfl | rfl | rfl | rfl | rfl | rfl | rfl
    · exact ⟨⟨fun e => absurd (show an = aw from e) (by omega), fun e => absurd (show an = L + 3 from e) (by omega)⟩, fun f e => by cases e⟩
    · exact ⟨⟨fun e => absurd (show ac = aw from e) (by omega), fun e => absurd (show ac = L + 3 from e) (by omega)⟩, fun f e => by cases e⟩
    · exact ⟨⟨fun e => absurd (show L + 1 = aw from e) (by omega), fun e => absurd (show L + 1 = L + 3 from e) (by omega)⟩, fun f e => by rw [e1] at e; cases e⟩
    · exact ⟨⟨fun e => absurd (show L + 2 = aw from e) (by omega), fun e => absurd (show L + 2 = L + 3 from e) (by omega)⟩, fun f e => by rw [e2] at e; cases e⟩
    · exact ⟨⟨fun e => absurd (show L + 4 = aw from e) (by omega), fun e => absurd (show L + 4 = L + 3 from e) (by omega)⟩, fun f e => by rw [d4] at e; cases e⟩
    · exact ⟨⟨fun e => absurd (show L + 5 = aw from e) (by omega), fun e => absurd (show L + 5 = L + 3 from e) (by omega)⟩, fun f e => by rw [d5] at e; cases e⟩
    · exact ⟨⟨fun e => absurd (show L + 6 = aw from e) (by omega), fun e => absurd (show L + 6 = L + 3 from e) (by omega)⟩, fun f e => by rw [d6] at e; cases e⟩
  obtain ⟨h3, tk3, m3, news3, rfl, F3, N3, refs, wsL, nw, o3', v3, rfl, e3, hrl, WA, S3⟩ := h7
  have off : ∀ x : Nat, L + 6 < x → Off L x := fun x hx => ⟨by omega, by omega, by omega⟩
  have hTL : ∀ q ∈ ((aw, listOf refs.toArray nw) :: (L + 3, o3') :: (an, listOf nvs.toArray nn) :: (ac, listOf cvs.toArray nc) :: (L + 1, o1') :: (L + 2, o2') :: wsL), Off L q.1 ∧ ∀ f, q.2.data ≠ .fields f := by
    intro q hq
    simp only [List.mem_cons] at hq
    rcases hq with rfl | rfl | rfl | rfl | rfl | rfl | hq
    · exact ⟨off _ haw, fun f e => by cases e⟩
    · exact ⟨⟨fun e => absurd (show L + 3 = L + 4 from e) (by omega), fun e => absurd (show L + 3 = L + 5 from e) (by omega), fun e => absurd (show L + 3 = L + 6 from e) (by omega)⟩, fun f e => by rw [e3] at e; cases e⟩
    · exact ⟨off _ (by omega), fun f e => by cases e⟩
    · exact ⟨off _ (by omega), fun f e => by cases e⟩
    · exact ⟨⟨fun e => absurd (show L + 1 = L + 4 from e) (by omega), fun e => absurd (show L + 1 = L + 5 from e) (by omega), fun e => absurd (show L + 1 = L + 6 from e) (by omega)⟩, fun f e => by rw [e1] at e; cases e⟩
    · exact ⟨⟨fun e => absurd (show L + 2 = L + 4 from e) (by omega), fun e => absurd (show L + 2 = L + 5 from e) (by omega), fun e => absurd (show L + 2 = L + 6 from e) (by omega)⟩, fun f e => by rw [e2] at e; cases e⟩
    · exact ⟨off _ (Nat.lt_trans haw (WA.above q hq)), WA.data q hq⟩
  refine law10 (aw := aw) W F3 (News.sub N3 ?_) d4 d5 d6 (.tail _ (.tail _ (.tail _ (.tail _ (.head _))))) e1 (.tail _ (.tail _ (.tail _ (.head _)))) hc hcl hlt0 hlt1 hTL ⟨S3.1, S3.2.2.2.1, trivial⟩ (fun s' h10 => ?_)
  · intro q hq
    simp only [List.mem_cons, List.mem_append, List.not_mem_nil, or_false] at hq ⊢
    rcases hq with h | h | h | h | h | h | h | h | h | h <;> simp [h]
  obtain ⟨h4, tk4, m4, news4, D, nD, vD, rfl, F4, N4, rvs, rcs, ar, acd, nr, ncd, o4', o5', o6', v5, v6, rfl, e4, e5, e6, hr, hcode, har, hacd, S4⟩ := h10
  have hcl4 : (cs.take 4).length = 4 := by rw [List.length_take, hcl]; rfl
  rw [show (cs.take 4).take 4 = cs.take 4 by rw [List.take_take]; rfl] at hr hcode
  obtain ⟨r1, r2, r3, r4⟩ := rows_ok (letP lt) 4 (cs.take 4) hcl4
  have K : Fast L aw p lt refs nw o1' tl ((aw, listOf refs.toArray nw) :: (L + 3, o3') :: (an, listOf nvs.toArray nn) :: (ac, listOf cvs.toArray nc) :: (L + 1, o1') :: (L + 2, o2') :: wsL) :=
    { mw := .head _, len := hrl, at_ := fun j hj => by
        obtain ⟨a, vs, n, q1, q2, q3⟩ := WA.at_ j (by omega)
        exact ⟨a, vs, n, q1, .tail _ (.tail _ (.tail _ (.tail _ (.tail _ (.tail _ q2))))), q3⟩
      m1 := .tail _ (.tail _ (.tail _ (.tail _ (.head _)))), d1 := e1, hp := hp29, lt0 := hlt0, lt1 := hlt1 }
  refine law11 W K (fun q hq => .tail _ (.tail _ (.tail _ (.tail _ (.tail _ (.tail _ hq)))))) F4 N4 (.tail _ (.tail _ (.tail _ (.head _)))) hr r1 r3 S4 (fun h5 tk5 m5 F5 N5 S5 => ?_)
  refine law17 W K (fun q hq => .tail _ (.tail _ (.tail _ (.tail _ (.tail _ (.tail _ hq)))))) F5 N5 (.tail _ (.tail _ (.tail _ (.head _)))) hr r1 r3 (.head _) e4 (.tail _ (.tail _ (.tail _ (.tail _ (.head _))))) hcode r2 (Lex.code_perm (letP_zero lt) _) ?_ S5 (fun h6 tk6 m6 F6 => hQ _ _ _ F6)
  intro q hq
  simp only [List.mem_cons] at hq
  rcases hq with rfl | rfl | rfl | rfl | rfl | rfl | hq
  · intro f e; rw [e4] at e; cases e
  · intro f e; rw [e5] at e; cases e
  · intro f e; rw [e6] at e; cases e
  · intro f e; cases e
  · intro f e; cases e
  · intro f e; cases e
  · exact (hTL q (by simp only [List.mem_cons]; exact hq)).2
end Mine
end
section
open PySem PySem.W PyProof.Rows PySem.Calls
set_option Elab.async false
set_option maxRecDepth 100000
set_option maxHeartbeats 4000000
namespace Mine
theorem offLawJoin : True := by
  w_top off
  exact True.intro
theorem law_join {w : World} {E : Value → Shared → Prop} {s : Shared} {h₀ : Heap} {L : Nat} {mean : ExcName → Option Value} {mg mb m : Str → Option Value} {Q : Flow → Shared → Prop} {a : Addr} {code : Value} {nm : Str} {scp : Scope} {bd : List Stmt}
    {sc : Nat} {o1 o2 o3 o4 o5 o6 : Obj} {svs : List Value} {ns : List Int} (hnm : nm = Str.ofString "law") (hscp : scp = lawScope) (hbd : bd = lawStmts)
    (X : (Mine.hd.heap_39 w.params).In h₀) (T : Top VV LS mean mg mb h₀) (F : Fr h₀ L s.heap m)
    (N : News h₀ L s.heap [(L + 6, o6), (L + 5, o5), (L + 4, o4), (L + 3, o3), (L + 2, o2), (L + 1, o1)])
    (d1 : o1.data = .cell none) (d2 : o2.data = .cell none) (d3 : o3.data = .cell none) (d4 : o4.data = .cell none) (d5 : o5.data = .cell none) (d6 : o6.data = .cell none)
    (hl : h₀.IsList sc svs.toArray) (hi : IntsAre svs ns) (hlay : PyData.layable0 (.list (ns.map .int)) = true) (hlen : ¬ ((63 : Nat) : Int) < ((ns.length : Nat) : Int))
    (S : m (Str.ofString "script") = some (.ref sc))
    (hQ : ∀ h' tk m', Fr h₀ L h' m' → Q (.ret (.bool true)) { s with heap := h', toks := tk }) :
    wpAny (model PP w) (callerA.deeper (envOfC nm scp L a code)) (execs bd (envOfC nm scp L a code)) Q E s := by
  subst hnm hscp hbd
  have W : Law w (callerA.deeper (envOfC (Str.ofString "law") lawScope L a code)) h₀ L (code, a) mean mg mb := ⟨X, T, rfl, rfl, by show callerA.depth + 1 + 5 < recursionLimit; decide +kernel, by show 7 + 64 < cLine; decide +kernel⟩
  obtain ⟨B0, hB0, hM⟩ : ∃ B0, B0 ≤ 1048576 ∧ ∀ z ∈ ns, z.natAbs < 2 ^ B0 := ⟨1048576, Nat.le_refl _, fun z hz => intBits_le_iff.mp (intBits_le_of_item hz hlay)⟩
  exact law_all W F (News.sub N (fun q hq => by
    simp only [List.mem_cons, List.not_mem_nil, or_false] at hq ⊢
    rcases hq with h | h | h | h | h | h <;> simp [h])) d1 d2 d3 d4 d5 d6 hl hi (by omega) hM hB0 ⟨S, trivial⟩ hQ
end Mine
end
open PySem PySem.W PyProof.Rows
theorem Mine.offEnd : True := by
  w_top off
  exact True.intro
set_option maxRecDepth 100000 in
set_option maxHeartbeats 8000000 in
theorem PySem.Challenge.cw_tv0007_01_holds : PySem.Challenge.rw_tv0007_01.Holds := by
  refine Mine.hd (by
    k_go0
    with_reducible rename (Frag.In _ _) => KX
    with_reducible rename (Top _ _ _ _ _ _) => T
    with_reducible rename Fr _ _ _ _ => F
    with_reducible rename News _ _ _ _ => N
    with_reducible rename IntsAre _ _ => hI
    with_reducible rename Heap.IsList _ _ _ => hl
    with_reducible rename PyData.layable0 _ = true => hlay
    with_reducible rename ¬ _ < _ => hlen
    rename_i left6 left5 left4 left3 left2 left1 X0
    clear X0
    refine Mine.law_join ?hnm ?hscp ?hbd KX T F N ?e1 ?e2 ?e3 ?e4 ?e5 ?e6 hl hI hlay hlen ?S ?hQ
    case hnm => rfl
    case hscp => rfl
    case hbd => rfl
    case e1 => exact left1
    case e2 => exact left2
    case e3 => exact left3
    case e4 => exact left4
    case e5 => exact left5
    case e6 => exact left6
    case S => rfl
    case hQ =>
      intro h' tk m' F'
      dsimp only
      wrow_close)
