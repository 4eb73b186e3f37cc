import PyProof.Rows.All
import Wide.All
import OpenK.AllK
import Wide.FinOn
import PySem.Challenge.RW_mq0071_01
set_option Elab.async false

section
open PySem PySem.W PyProof.Rows
namespace Mine
set_option maxRecDepth 100000 in
set_option maxHeartbeats 8000000 in
open_top hd for PySem.Challenge.rw_mq0071_01
end Mine
end

theorem Mine.walk_off : True := by w_top off; trivial

section
open PySem PySem.W PyProof.Rows
namespace Mine

def S (l : List Nat) : Str := ⟨l.toArray⟩
theorem S_toList (l : List Nat) : (S l).cps.toList = l := rfl
theorem S_of (x : Str) : S x.cps.toList = x := by cases x; simp [S]
theorem S_length (l : List Nat) : (S l).length = l.length := by simp [S, Str.length]
theorem S_append (a b : List Nat) : S a ++ S b = S (a ++ b) := by
  apply Str.ext'; simp [S, Str.cps_append]
theorem S_inj {a b : List Nat} (h : S a = S b) : a = b := by
  have := congrArg (fun x => x.cps.toList) h
  simpa [S] using this
theorem S_nil : S [] = Str.empty := rfl

noncomputable def jn (sep : List Nat) : List (List Nat) → List Nat
  | [] => []
  | [x] => x
  | x :: y :: r => x ++ sep ++ jn sep (y :: r)

theorem join_S (sep : List Nat) : ∀ ps : List (List Nat), Str.join (S sep) (ps.map S) = S (jn sep ps)
  | [] => rfl
  | [x] => rfl
  | x :: y :: r => by
    show S x ++ S sep ++ Str.join (S sep) ((y :: r).map S) = S (x ++ sep ++ jn sep (y :: r))
    rw [join_S sep (y :: r), S_append, S_append]

theorem join_any (sep : List Nat) (qs : List Str) : Str.join (S sep) qs = S (jn sep (qs.map fun q => q.cps.toList)) := by
  rw [← join_S]
  congr 1
  rw [List.map_map]
  conv => lhs; rw [← List.map_id qs]
  exact List.map_congr_left fun q _ => (S_of q).symm

theorem app_inj {c : Nat} : ∀ {a b x y : List Nat}, c ∉ a → c ∉ b → a ++ c :: x = b ++ c :: y → a = b ∧ x = y
  | [], [], _, _, _, _, h => ⟨rfl, (List.cons.inj h).2⟩
  | [], b :: bs, _, _, _, hb, h => by
    have := (List.cons.inj h).1
    exact absurd (this ▸ List.mem_cons_self ..) hb
  | a :: as, [], _, _, ha, _, h => by
    have := (List.cons.inj h).1
    exact absurd (this ▸ List.mem_cons_self ..) ha
  | a :: as, b :: bs, x, y, ha, hb, h => by
    obtain ⟨h1, h2⟩ := List.cons.inj h
    obtain ⟨h3, h4⟩ := app_inj (fun q => ha (.tail _ q)) (fun q => hb (.tail _ q)) h2
    exact ⟨by rw [h1, h3], h4⟩

theorem jn_cons (sep x : List Nat) {r : List (List Nat)} (h : r ≠ []) : jn sep (x :: r) = x ++ sep ++ jn sep r := by
  cases r with
  | nil => exact absurd rfl h
  | cons y r => rfl

theorem jn_inj {c : Nat} : ∀ {ps qs : List (List Nat)}, ps ≠ [] → qs ≠ [] → (∀ p ∈ ps, c ∉ p) → (∀ q ∈ qs, c ∉ q) → jn [c] ps = jn [c] qs → ps = qs
  | [], _, h, _, _, _, _ => absurd rfl h
  | _ :: _, [], _, h, _, _, _ => absurd rfl h
  | [p], [q], _, _, _, _, h => by simpa [jn] using h
  | [p], q :: q' :: r, _, _, hp, _, h => by
    exfalso
    rw [jn_cons [c] q (by simp)] at h
    refine hp p (by simp) ?_
    have h' : p = q ++ [c] ++ jn [c] (q' :: r) := h
    rw [h']; simp
  | p :: p' :: r, [q], _, _, _, hq, h => by
    exfalso
    rw [jn_cons [c] p (by simp)] at h
    refine hq q (by simp) ?_
    have h' : p ++ [c] ++ jn [c] (p' :: r) = q := h
    rw [← h']; simp
  | p :: p' :: r, q :: q' :: t, _, _, hp, hq, h => by
    rw [jn_cons [c] p (by simp), jn_cons [c] q (by simp), List.append_assoc, List.append_assoc] at h
    obtain ⟨h1, h2⟩ := app_inj (hp p (by simp)) (hq q (by simp)) h
    rw [h1, jn_inj (by simp) (by simp) (fun x hx => hp x (.tail _ hx)) (fun x hx => hq x (.tail _ hx)) h2]

theorem split_ne (x y : Str) : Txt.split x y ≠ [] := by
  unfold Txt.split
  split
  · simp
  · split
    · simp
    · rw [StrLaws.partsBetween_eq]
      obtain ⟨p, r, e⟩ := StrLaws.partsFrom_ne x y.length 0 (Builtin.Str.occurrences x y 0 x.length (x.length + 1))
      rw [e]; simp

theorem split_S {c : Nat} {ps : List (List Nat)} (hne : ps ≠ []) (hf : ∀ p ∈ ps, c ∉ p) : Txt.split (S (jn [c] ps)) (S [c]) = ps.map S := by
  have h1 := StrLaws.join_split (S (jn [c] ps)) (S [c])
  have h2 := StrLaws.split_free (S (jn [c] ps)) c
  have h3 := split_ne (S (jn [c] ps)) (S [c])
  change ∀ p ∈ Txt.split (S (jn [c] ps)) (S [c]), _ at h2
  generalize Txt.split (S (jn [c] ps)) (S [c]) = qs at h1 h2 h3
  rw [join_any] at h1
  have h4 := S_inj h1
  have h5 := jn_inj (c := c) (by simpa using h3) hne (fun q hq => by
    obtain ⟨y, hy, rfl⟩ := List.mem_map.mp hq
    exact h2 y hy) hf h4
  rw [← h5, List.map_map]
  conv => lhs; rw [← List.map_id qs]
  exact List.map_congr_left fun q _ => (S_of q).symm

def sub (c : Nat) (z : List Nat) (l : List Nat) : List Nat := l.flatMap fun d => if d = c then z else [d]
theorem sub_append (c : Nat) (z a b : List Nat) : sub c z (a ++ b) = sub c z a ++ sub c z b := by simp [sub]
theorem sub_free {c : Nat} {z : List Nat} : ∀ {l : List Nat}, c ∉ l → sub c z l = l
  | [], _ => rfl
  | d :: l, h => by
    have h1 : d ≠ c := fun e => h (e ▸ List.mem_cons_self ..)
    have h2 : sub c z l = l := sub_free fun q => h (.tail _ q)
    show (if d = c then z else [d]) ++ sub c z l = _
    rw [if_neg h1, h2]; rfl
theorem sub_one (c : Nat) (z : List Nat) : sub c z [c] = z := by simp [sub]
theorem sub_jn {c : Nat} {z : List Nat} : ∀ {ps : List (List Nat)}, (∀ p ∈ ps, c ∉ p) → sub c z (jn [c] ps) = jn z ps
  | [], _ => rfl
  | [p], h => sub_free (h p (by simp))
  | p :: q :: r, h => by
    rw [jn_cons [c] p (by simp), jn_cons z p (by simp), sub_append, sub_append, sub_one, sub_free (h p (by simp)), sub_jn fun x hx => h x (.tail _ hx)]

theorem split_parts (c : Nat) (l : List Nat) : ∃ ps : List (List Nat), ps ≠ [] ∧ (∀ p ∈ ps, c ∉ p) ∧ jn [c] ps = l ∧ Txt.split (S l) (S [c]) = ps.map S := by
  have h1 := StrLaws.join_split (S l) (S [c])
  have h2 := StrLaws.split_free (S l) c
  have h3 := split_ne (S l) (S [c])
  change ∀ p ∈ Txt.split (S l) (S [c]), _ at h2
  generalize Txt.split (S l) (S [c]) = qs at h1 h2 h3
  rw [join_any] at h1
  refine ⟨qs.map fun q => q.cps.toList, by simpa using h3, fun q hq => ?_, S_inj h1, ?_⟩
  · obtain ⟨y, hy, rfl⟩ := List.mem_map.mp hq
    exact h2 y hy
  · rw [List.map_map]
    conv => lhs; rw [← List.map_id qs]
    exact List.map_congr_left fun q _ => (S_of q).symm

theorem replace_step (c : Nat) (z l : List Nat) : Str.join (S z) (Txt.split (S l) (S [c])) = S (sub c z l) := by
  obtain ⟨ps, _, h2, h3, h4⟩ := split_parts c l
  rw [h4, join_S, ← h3, sub_jn h2]

theorem count_jn {c : Nat} : ∀ {ps : List (List Nat)}, ps ≠ [] → (∀ p ∈ ps, c ∉ p) → (jn [c] ps).count c + 1 = ps.length
  | [], h, _ => absurd rfl h
  | [p], _, h => by
    have : p.count c = 0 := List.count_eq_zero.mpr (h p (by simp))
    simp [jn, this]
  | p :: q :: r, _, h => by
    have h1 : p.count c = 0 := List.count_eq_zero.mpr (h p (by simp))
    have h2 := count_jn (c := c) (ps := q :: r) (by simp) fun x hx => h x (.tail _ hx)
    rw [jn_cons [c] p (by simp), List.count_append, List.count_append, h1]
    simp only [List.count_singleton_self, List.length_cons] at h2 ⊢
    omega

theorem partsFrom_len (x : Str) (w : Nat) : ∀ (cuts : List Nat) (a : Nat), (StrLaws.partsFrom x w a cuts).length = cuts.length + 1
  | [], _ => rfl
  | c :: cs, a => by
    show (_ :: StrLaws.partsFrom x w (c + w) cs).length = _
    simp [partsFrom_len x w cs (c + w)]

theorem occ_empty (y : Str) (hy : 1 ≤ y.length) : Builtin.Str.occurrences (S []) y 0 (S []).length ((S []).length + 1) = [] := by
  have : (S []).length = 0 := rfl
  rw [this, StrLaws.occ_eq]
  simp only [Nat.zero_add, Nat.sub_zero]
  show (forIn [0] (#[], 0) (StrLaws.occBody (S []) y 0 1)).run.fst.toList = []
  rw [List.forIn_cons]
  unfold StrLaws.occBody
  have h0 : ¬ (y.length = 0) := by omega
  simp [h0]

theorem count_S {c : Nat} (hc : c < 256) (l : List Nat) : Txt.count (S l) (S [c]) = (l.count c : Nat) := by
  obtain ⟨ps, h1, h2, h3, h4⟩ := split_parts c l
  have h5 := count_jn h1 h2
  rw [h3] at h5
  unfold Txt.count
  congr 1
  have e : (ps.map S).length = ps.length := by simp
  rw [← h4] at e
  unfold Txt.split at e
  have hk : Builtin.Str.strKind (S [c]) = 1 := by simp [Builtin.Str.strKind, S, hc]
  by_cases hl : l = []
  · subst hl
    rw [occ_empty _ (by rw [S_length]; exact Nat.le_refl 1)]; simp
  · have hl' : 1 ≤ l.length := by cases l with | nil => exact absurd rfl hl | cons => simp
    have hk1 : ¬ (Builtin.Str.strKind (S l) < 1) := by
      unfold Builtin.Str.strKind; split <;> (try split) <;> omega
    rw [hk, S_length, S_length] at e
    rw [if_neg (by simp only [Bool.or_eq_true, decide_eq_true_eq, List.length_singleton]; omega)] at e
    rw [S_length]
    split at e
    · rename_i hq
      have : Builtin.Str.occurrences (S l) (S [c]) 0 l.length (l.length + 1) = [] := List.isEmpty_iff.mp hq
      rw [this]
      simp only [List.length_singleton, List.length_nil] at e ⊢
      omega
    · rw [StrLaws.partsBetween_eq, partsFrom_len] at e
      omega

-- strip
theorem strip_S {l : List Nat} (h1 : ∀ c, l.head? = some c → Unicode.isSpace c = false) (h2 : ∀ c, l.getLast? = some c → Unicode.isSpace c = false) : Txt.strip (S l) = S l := by
  have lo : stripLo Unicode.isSpace true (S l) = 0 := by
    simp only [stripLo, if_true]
    rw [S_toList]
    cases l with
    | nil => rfl
    | cons c l => simp [List.takeWhile_cons, h1 c rfl]
  have hi : stripHi Unicode.isSpace true (S l) 0 = (S l).length := by
    simp only [stripHi, if_true, List.drop_zero]
    rw [S_toList]
    cases hr : l.reverse with
    | nil => rfl
    | cons c r =>
      have : l.getLast? = some c := by rw [List.getLast?_eq_head?_reverse, hr]; rfl
      simp [List.takeWhile_cons, h2 c this]
  have hsame : stripSame Unicode.isSpace true true (S l) = true := by
    unfold stripSame
    rw [lo, hi]
    simp
  unfold Txt.strip Txt.stripBy
  rw [if_pos hsame]
end Mine
end

section
open PySem PySem.W PyProof.Rows
namespace Mine

abbrev Key := List Nat × Int × List Nat
abbrev Clr := Key × Int

def tx (i : Int) : List Nat := (Str.ofString (toString i)).cps.toList
theorem S_tx (i : Int) : S (tx i) = Str.ofString (toString i) := S_of _

abbrev Pl (d : Nat) : Prop := d ≠ 10 ∧ d ≠ 58 ∧ d ≠ 40 ∧ d ≠ 41 ∧ d ≠ 123 ∧ d ≠ 125
def OkS (p : List Nat) : Prop := p ≠ [] ∧ (∀ d ∈ p, Pl d) ∧ (∀ c, p.head? = some c → Unicode.isSpace c = false) ∧ (∀ c, p.getLast? = some c → Unicode.isSpace c = false)

def okB (p : List Nat) : Bool := !p.isEmpty && p.all (fun d => decide (Pl d)) && (match p.head? with | some c => !Unicode.isSpace c | none => true) && (match p.getLast? with | some c => !Unicode.isSpace c | none => true)
theorem okS_of {p : List Nat} (h : okB p = true) : OkS p := by
  unfold okB at h
  simp only [Bool.and_eq_true, List.all_eq_true, decide_eq_true_eq] at h
  obtain ⟨⟨⟨h1, h2⟩, h3⟩, h4⟩ := h
  refine ⟨by simpa using h1, h2, fun c e => ?_, fun c e => ?_⟩
  · rw [e] at h3; simpa using h3
  · rw [e] at h4; simpa using h4

theorem tx_okB : ∀ n : Fin 100, okB (tx ((n.val : Int) - 1)) = true := by decide +kernel
theorem tx_ok {i : Int} (h0 : -1 ≤ i) (h1 : i ≤ 98) : OkS (tx i) := by
  have := tx_okB ⟨(i + 1).toNat, by omega⟩
  have e : (((i + 1).toNat : Nat) : Int) - 1 = i := by omega
  simp only [e] at this
  exact okS_of this
theorem tx_len : ∀ n : Fin 100, (tx ((n.val : Int) - 1)).length ≤ 2 := by decide +kernel
theorem tx_short {i : Int} (h0 : -1 ≤ i) (h1 : i ≤ 98) : (tx i).length ≤ 2 := by
  have := tx_len ⟨(i + 1).toNat, by omega⟩
  have e : (((i + 1).toNat : Nat) : Int) - 1 = i := by omega
  simpa only [e] using this

structure OkC (c : Clr) : Prop where
  file : OkS c.1.1
  name : OkS c.1.2.2
  line : c.1.2.1 = 0 ∨ c.1.2.1 = 12 ∨ c.1.2.1 = -1
  count : -1 ≤ c.2 ∧ c.2 ≤ 98
  ang : c.1.1 = [126] → c.1.2.1 = 0 → ∃ n, c.1.2.2 = [60] ++ n ++ [62]
  short : c.1.1.length ≤ 4 ∧ c.1.2.2.length ≤ 5
  small : (∀ d ∈ c.1.1, d < 0x110000) ∧ (∀ d ∈ c.1.2.2, d < 0x110000)

theorem OkC.lineB {c : Clr} (h : OkC c) : -1 ≤ c.1.2.1 ∧ c.1.2.1 ≤ 98 := by rcases h.line with e | e | e <;> omega

/-- a caller with `~` alone and line 0 -/
def isTop (k : Key) : Bool := k.1 == [126] && k.2.1 == 0

def told (k : Key) : List Nat :=
  if isTop k then [123] ++ (k.2.2.drop 1).take (k.2.2.length - 2) ++ [125] else k.1 ++ [58] ++ tx k.2.1 ++ [40] ++ k.2.2 ++ [41]
def entry (c : Clr) : List Nat := told c.1 ++ tx c.2

def parts (c : Clr) : List (List Nat) := [c.1.1, tx c.1.2.1, c.1.2.2, tx c.2]

def sg (l : List Nat) : List Nat := sub 125 [62, 10, 10] (sub 123 [126, 10, 10, 48, 10, 10, 60] (sub 41 [10, 10] (sub 40 [10, 10] (sub 58 [10, 10] l))))
theorem sg_append (a b : List Nat) : sg (a ++ b) = sg a ++ sg b := by simp [sg, sub_append]
theorem sg_pl {l : List Nat} (h : ∀ d ∈ l, Pl d) : sg l = l := by
  unfold sg
  rw [sub_free (c := 58) (l := l) fun q => (h _ q).2.1 rfl, sub_free (c := 40) (l := l) fun q => (h _ q).2.2.1 rfl, sub_free (c := 41) (l := l) fun q => (h _ q).2.2.2.1 rfl,
    sub_free (c := 123) (l := l) fun q => (h _ q).2.2.2.2.1 rfl, sub_free (c := 125) (l := l) fun q => (h _ q).2.2.2.2.2 rfl]
theorem sg_58 : sg [58] = [10, 10] := by decide
theorem sg_40 : sg [40] = [10, 10] := by decide
theorem sg_41 : sg [41] = [10, 10] := by decide
theorem sg_123 : sg [123] = [126, 10, 10, 48, 10, 10, 60] := by decide
theorem sg_125 : sg [125] = [62, 10, 10] := by decide
theorem sg_nl : sg [10, 10] = [10, 10] := by decide
theorem tx_zero : tx 0 = [48] := by decide +kernel

theorem isTop_iff {k : Key} : isTop k = true ↔ k.1 = [126] ∧ k.2.1 = 0 := by simp [isTop]

theorem sg_entry {c : Clr} (h : OkC c) : sg (entry c) = jn [10, 10] (parts c) := by
  obtain ⟨⟨f, l, n⟩, k⟩ := c
  have hk := tx_ok h.count.1 h.count.2
  have hl := tx_ok h.lineB.1 h.lineB.2
  have hf := h.file
  have hn := h.name
  simp only at hk hl hf hn
  unfold entry told parts
  simp only
  split
  · rename_i ht
    obtain ⟨e1, e2⟩ := isTop_iff.mp ht
    simp only at e1 e2
    subst e1 e2
    obtain ⟨n', rfl⟩ := h.ang rfl rfl
    have e : (List.drop 1 ([60] ++ n' ++ [62])).take (([60] ++ n' ++ [62]).length - 2) = n' := by simp
    have hn' : ∀ d ∈ n', Pl d := fun d hd => hn.2.1 d (by simp [hd])
    rw [e, sg_append, sg_append, sg_append, sg_123, sg_125, sg_pl hn', sg_pl hk.2.1]
    simp [jn, tx_zero]
  · rw [sg_append, sg_append, sg_append, sg_append, sg_append, sg_append, sg_58, sg_40, sg_41, sg_pl hf.2.1, sg_pl hl.2.1, sg_pl hn.2.1, sg_pl hk.2.1]
    simp [jn]

theorem sg_jn : ∀ ps : List (List Nat), sg (jn [10, 10] ps) = jn [10, 10] (ps.map sg)
  | [] => by decide
  | [p] => rfl
  | p :: q :: r => by
    rw [jn_cons _ _ (by simp), sg_append, sg_append, sg_nl, sg_jn (q :: r)]
    rfl

theorem jn_app (sep : List Nat) {a b : List (List Nat)} (ha : a ≠ []) (hb : b ≠ []) : jn sep (a ++ b) = jn sep a ++ sep ++ jn sep b := by
  induction a with
  | nil => exact absurd rfl ha
  | cons x r ih =>
    cases r with
    | nil => simp [jn_cons sep x hb, jn]
    | cons y r =>
      have h1 := ih (by simp)
      rw [List.cons_append, jn_cons sep x (by simp), h1, jn_cons sep x (by simp)]
      simp

theorem jn_flat (sep : List Nat) : ∀ (ps : List (List (List Nat))), (∀ p ∈ ps, p ≠ []) → jn sep (ps.map (jn sep)) = jn sep ps.flatten
  | [], _ => rfl
  | [p], _ => by simp [jn]
  | p :: q :: r, h => by
    have h1 := jn_flat sep (q :: r) fun x hx => h x (.tail _ hx)
    have h2 : (q :: r).flatten ≠ [] := by
      have := h q (by simp)
      intro e
      simp at e
      exact this e.1
    show jn sep (jn sep p :: (q :: r).map (jn sep)) = jn sep (p ++ (q :: r).flatten)
    rw [jn_app sep (h p (by simp)) h2, jn_cons sep _ (by simp), h1]

noncomputable def page (cs : List Clr) : List Nat := jn [10, 10] (cs.map entry)
def pieces (cs : List Clr) : List (List Nat) := cs.flatMap parts

theorem sg_page {cs : List Clr} (h : ∀ c ∈ cs, OkC c) : sg (page cs) = jn [10, 10] (pieces cs) := by
  unfold page pieces
  rw [sg_jn, List.map_map]
  have : cs.map (sg ∘ entry) = (cs.map parts).map (jn [10, 10]) := by
    rw [List.map_map]
    exact List.map_congr_left fun c hc => sg_entry (h c hc)
  rw [this, jn_flat _ _ (by
    intro p hp
    obtain ⟨c, _, rfl⟩ := List.mem_map.mp hp
    simp [parts])]
  rfl

theorem count_pl {l : List Nat} (h : ∀ d ∈ l, Pl d) : l.count 123 = 0 := List.count_eq_zero.mpr fun q => (h _ q).2.2.2.2.1 rfl
theorem count_entry {c : Clr} (h : OkC c) : (entry c).count 123 = if isTop c.1 then 1 else 0 := by
  obtain ⟨⟨f, l, n⟩, k⟩ := c
  have hk := tx_ok h.count.1 h.count.2
  have hl := tx_ok h.lineB.1 h.lineB.2
  have hf := h.file
  have hn := h.name
  simp only at hk hl hf hn
  unfold entry told
  simp only
  split
  · rename_i ht
    have hn' : ∀ d ∈ (List.drop 1 n).take (n.length - 2), Pl d := fun d hd => hn.2.1 d (List.drop_subset _ _ (List.take_subset _ _ hd))
    rw [List.count_append, List.count_append, List.count_append, count_pl hn', count_pl hk.2.1]
    decide
  · rw [List.count_append, List.count_append, List.count_append, List.count_append, List.count_append, List.count_append, count_pl hf.2.1, count_pl hl.2.1, count_pl hn.2.1, count_pl hk.2.1]
    decide

theorem count_page : ∀ {cs : List Clr}, (∀ c ∈ cs, OkC c) → (page cs).count 123 = (cs.filter fun c => isTop c.1).length
  | [], _ => rfl
  | [c], h => by
    show (entry c).count 123 = _
    rw [count_entry (h c (by simp))]
    by_cases e : isTop c.1 = true <;> simp [e]
  | c :: d :: r, h => by
    have h1 := count_page (cs := d :: r) fun x hx => h x (.tail _ hx)
    unfold page at h1 ⊢
    rw [List.map_cons, jn_cons _ _ (by simp), List.count_append, List.count_append, h1, count_entry (h c (by simp))]
    have h2 : ((c :: d :: r).filter fun c => isTop c.1).length = (if isTop c.1 = true then 1 else 0) + ((d :: r).filter fun c => isTop c.1).length := by
      rw [List.filter_cons (x := c)]
      by_cases e : isTop c.1 = true
      · simp only [e, if_true, List.length_cons]; omega
      · simp only [e, if_false, Bool.false_eq_true, Nat.zero_add]
    rw [h2, show List.count 123 [10, 10] = 0 from by decide]
    omega

-- the rows
noncomputable def rows : List (List Nat) → List (List Nat)
  | [] => []
  | [p] => [p]
  | p :: q :: r => p :: [] :: rows (q :: r)
theorem rows_ne {ps : List (List Nat)} (h : ps ≠ []) : rows ps ≠ [] := by
  match ps with
  | [] => exact absurd rfl h
  | [p] => simp [rows]
  | p :: q :: r => simp [rows]
theorem jn_rows : ∀ ps : List (List Nat), jn [10] (rows ps) = jn [10, 10] ps
  | [] => rfl
  | [p] => rfl
  | p :: q :: r => by
    have h := jn_rows (q :: r)
    show jn [10] (p :: [] :: rows (q :: r)) = _
    rw [jn_cons [10] p (by simp), jn_cons [10] [] (rows_ne (by simp)), h, jn_cons [10, 10] p (by simp)]
    simp
theorem rows_free : ∀ {ps : List (List Nat)}, (∀ p ∈ ps, 10 ∉ p) → ∀ p ∈ rows ps, 10 ∉ p
  | [], _, _, hp => nomatch hp
  | [q], h, p, hp => h p hp
  | a :: q :: r, h, p, hp => by
    rcases List.mem_cons.mp hp with rfl | hp
    · exact h _ (by simp)
    · rcases List.mem_cons.mp hp with rfl | hp
      · simp
      · exact rows_free (fun x hx => h x (.tail _ hx)) p hp

theorem nl_S : Str.ofString "\n" = S [10] := by decide +kernel
theorem split_rows {ps : List (List Nat)} (hne : ps ≠ []) (h : ∀ p ∈ ps, OkS p) : Txt.split (S (jn [10, 10] ps)) (Str.ofString "\n") = (rows ps).map S := by
  rw [nl_S, ← jn_rows]
  exact split_S (rows_ne hne) (rows_free fun p hp q => ((h p hp).2.1 _ q).1 rfl)

theorem jn_head {sep : List Nat} : ∀ {ps : List (List Nat)}, (∀ p ∈ ps, p ≠ []) → (jn sep ps).head? = ps.head?.bind (·.head?)
  | [], _ => rfl
  | [p], _ => by simp [jn]
  | p :: q :: r, h => by
    rw [jn_cons _ _ (by simp)]
    have := h p (by simp)
    cases p with
    | nil => exact absurd rfl this
    | cons => simp
theorem jn_ne {sep : List Nat} : ∀ {ps : List (List Nat)}, ps ≠ [] → (∀ p ∈ ps, p ≠ []) → jn sep ps ≠ []
  | [], h, _ => absurd rfl h
  | [p], _, h => h p (by simp)
  | p :: q :: r, _, h => by
    rw [jn_cons _ _ (by simp)]
    have := h p (by simp)
    cases p with
    | nil => exact absurd rfl this
    | cons => simp
theorem jn_last {sep : List Nat} : ∀ {ps : List (List Nat)}, (∀ p ∈ ps, p ≠ []) → (jn sep ps).getLast? = ps.getLast?.bind (·.getLast?)
  | [], _ => rfl
  | [p], _ => by simp [jn]
  | p :: q :: r, h => by
    rw [jn_cons _ _ (by simp)]
    have h1 := jn_last (sep := sep) (ps := q :: r) fun x hx => h x (.tail _ hx)
    have h2 : jn sep (q :: r) ≠ [] := jn_ne (by simp) fun x hx => h x (.tail _ hx)
    rw [List.getLast?_append, h1]
    have h3 : ((q :: r).getLast?.bind fun x => x.getLast?) ≠ none := by rw [← h1]; simpa using h2
    have h4 : (p :: q :: r).getLast? = (q :: r).getLast? := by simp [List.getLast?_cons_cons]
    rw [h4]
    cases h5 : ((q :: r).getLast?.bind fun x => x.getLast?) with
    | none => exact absurd h5 h3
    | some v => rfl

theorem strip_page {ps : List (List Nat)} (h : ∀ p ∈ ps, OkS p) : Txt.strip (S (jn [10, 10] ps)) = S (jn [10, 10] ps) := by
  refine strip_S (fun c e => ?_) fun c e => ?_
  · rw [jn_head fun p hp => (h p hp).1] at e
    obtain ⟨p, hp, hc⟩ := Option.bind_eq_some_iff.mp e
    exact (h p (List.mem_of_mem_head? hp)).2.2.1 c hc
  · rw [jn_last fun p hp => (h p hp).1] at e
    obtain ⟨p, hp, hc⟩ := Option.bind_eq_some_iff.mp e
    exact (h p (List.mem_of_mem_getLast? hp)).2.2.2 c hc

theorem pieces_ok {cs : List Clr} (h : ∀ c ∈ cs, OkC c) : ∀ p ∈ pieces cs, OkS p := by
  intro p hp
  obtain ⟨c, hc, hp⟩ := List.mem_flatMap.mp hp
  have k := h c hc
  simp only [parts, List.mem_cons, List.not_mem_nil, or_false] at hp
  rcases hp with rfl | rfl | rfl | rfl
  · exact k.file
  · exact tx_ok k.lineB.1 k.lineB.2
  · exact k.name
  · exact tx_ok k.count.1 k.count.2
end Mine
end

section
open PySem PySem.W PyProof.Rows
namespace Mine

abbrev Tab := List (Key × Int)

def bump (k : Key) (v : Int) (x : Key × Int) : Key × Int := if x.1 = k then (x.1, x.2 + v) else x
def addTo (t : Tab) (k : Key) (v : Int) : Tab := if k ∈ t.map (·.1) then t.map (bump k v) else t ++ [(k, v)]
def merge (t s : Tab) : Tab := s.foldl (fun t c => addTo t c.1 c.2) t
def tab (cs : List Clr) : Tab := merge [] cs

theorem bump_key (k : Key) (v : Int) (x : Key × Int) : (bump k v x).1 = x.1 := by unfold bump; split <;> rfl
theorem keys_bump (k : Key) (v : Int) (t : Tab) : (t.map (bump k v)).map (·.1) = t.map (·.1) := by
  rw [List.map_map]; exact List.map_congr_left fun x _ => bump_key k v x
theorem bump_free {k : Key} {v : Int} {t : Tab} (h : k ∉ t.map (·.1)) : t.map (bump k v) = t := by
  conv => rhs; rw [← List.map_id t]
  refine List.map_congr_left fun x hx => ?_
  have hne : ¬ x.1 = k := fun e => h (List.mem_map.mpr ⟨x, hx, e⟩)
  unfold bump
  rw [if_neg hne]
  rfl
theorem keys_addTo (t : Tab) (k : Key) (v : Int) : (addTo t k v).map (·.1) = if k ∈ t.map (·.1) then t.map (·.1) else t.map (·.1) ++ [k] := by
  unfold addTo
  split
  · exact keys_bump k v t
  · simp
theorem mem_addTo (t : Tab) (k : Key) (v : Int) : k ∈ (addTo t k v).map (·.1) := by
  rw [keys_addTo]; split
  · assumption
  · simp
theorem mem_addTo_of {t : Tab} {k k' : Key} {v : Int} (h : k' ∈ t.map (·.1)) : k' ∈ (addTo t k v).map (·.1) := by
  rw [keys_addTo]; split
  · exact h
  · exact List.mem_append_left _ h
theorem nodup_addTo {t : Tab} (h : (t.map (·.1)).Nodup) (k : Key) (v : Int) : ((addTo t k v).map (·.1)).Nodup := by
  rw [keys_addTo]; split
  · exact h
  · rename_i hk
    rw [List.nodup_append]
    refine ⟨h, by simp, ?_⟩
    intro a ha b hb e
    rw [List.mem_singleton] at hb
    exact hk (hb ▸ e ▸ ha)
theorem nodup_merge : ∀ {s t : Tab}, (t.map (·.1)).Nodup → ((merge t s).map (·.1)).Nodup
  | [], _, h => h
  | c :: s, t, h => nodup_merge (s := s) (t := addTo t c.1 c.2) (nodup_addTo h c.1 c.2)
theorem nodup_tab (cs : List Clr) : ((tab cs).map (·.1)).Nodup := nodup_merge (by simp)

theorem bump_bump (k : Key) (u v : Int) (x : Key × Int) : bump k v (bump k u x) = bump k (u + v) x := by
  unfold bump
  by_cases e : x.1 = k
  · simp [e]; omega
  · simp [e]
theorem addTo_twice (t : Tab) (k : Key) (u v : Int) : addTo (addTo t k u) k v = addTo t k (u + v) := by
  have h : addTo (addTo t k u) k v = (addTo t k u).map (bump k v) := if_pos (mem_addTo t k u)
  rw [h]
  unfold addTo
  split
  · rw [List.map_map]; exact List.map_congr_left fun x _ => bump_bump k u v x
  · rename_i hk
    rw [List.map_append, bump_free hk]
    simp [bump]
theorem bump_comm {k k' : Key} (hne : k ≠ k') (v v' : Int) (x : Key × Int) : bump k' v' (bump k v x) = bump k v (bump k' v' x) := by
  unfold bump
  by_cases e : x.1 = k
  · have : ¬ x.1 = k' := fun q => hne (e.symm.trans q)
    simp [e, hne]
  · by_cases e' : x.1 = k'
    · simp [e', Ne.symm hne]
    · simp [e, e']
theorem addTo_comm {a : Tab} {k k' : Key} (hk : k ∈ a.map (·.1)) (hne : k ≠ k') (v v' : Int) : addTo (addTo a k v) k' v' = addTo (addTo a k' v') k v := by
  have e1 : addTo a k v = a.map (bump k v) := if_pos hk
  rw [e1]
  by_cases hk' : k' ∈ a.map (·.1)
  · have e2 : addTo a k' v' = a.map (bump k' v') := if_pos hk'
    rw [e2]
    unfold addTo
    rw [keys_bump, keys_bump, if_pos hk', if_pos hk, List.map_map, List.map_map]
    exact List.map_congr_left fun x _ => bump_comm hne v v' x
  · have e2 : addTo a k' v' = a ++ [(k', v')] := if_neg hk'
    rw [e2]
    unfold addTo
    rw [keys_bump, if_neg hk', if_pos (by rw [List.map_append]; exact List.mem_append_left _ hk), List.map_append]
    simp [bump, Ne.symm hne]
theorem merge_addTo_free : ∀ {s a : Tab} {k : Key} (v : Int), k ∈ a.map (·.1) → k ∉ s.map (·.1) → merge (addTo a k v) s = addTo (merge a s) k v
  | [], _, _, _, _, _ => rfl
  | c :: s, a, k, v, hk, hs => by
    have hne : k ≠ c.1 := fun e => hs (by simp [e])
    show merge (addTo (addTo a k v) c.1 c.2) s = addTo (merge (addTo a c.1 c.2) s) k v
    rw [addTo_comm hk hne]
    exact merge_addTo_free v (mem_addTo_of hk) fun q => hs (by simp only [List.map_cons]; exact .tail _ q)
theorem merge_append (t a b : Tab) : merge t (a ++ b) = merge (merge t a) b := by simp [merge, List.foldl_append]

theorem merge_addTo {s acc : Tab} (hn : (s.map (·.1)).Nodup) (k : Key) (v : Int) : merge acc (addTo s k v) = addTo (merge acc s) k v := by
  by_cases hk : k ∈ s.map (·.1)
  · obtain ⟨⟨k', u⟩, hx, rfl⟩ := List.mem_map.mp hk
    obtain ⟨s1, s2, rfl⟩ := List.append_of_mem hx
    simp only [List.map_append, List.map_cons] at hn
    rw [List.nodup_append] at hn
    obtain ⟨_, h2, h3⟩ := hn
    have f1 : k' ∉ s1.map (·.1) := fun q => h3 _ q _ (.head _) rfl
    have f2 : k' ∉ s2.map (·.1) := (List.nodup_cons.mp h2).1
    have e : addTo (s1 ++ (k', u) :: s2) k' v = s1 ++ (k', u + v) :: s2 := by
      unfold addTo
      rw [if_pos hk, List.map_append, List.map_cons, bump_free f1, bump_free f2]
      simp [bump]
    show merge acc (addTo (s1 ++ (k', u) :: s2) k' v) = _
    rw [e, merge_append, merge_append]
    show merge (addTo (merge acc s1) k' (u + v)) s2 = addTo (merge (addTo (merge acc s1) k' u) s2) k' v
    rw [← addTo_twice, merge_addTo_free v (mem_addTo _ _ _) f2]
  · have e : addTo s k v = s ++ [(k, v)] := if_neg hk
    rw [e, merge_append]; rfl

theorem merge_merge {a : Tab} (acc : Tab) : ∀ (ys : List Clr), (a.map (·.1)).Nodup → merge acc (merge a ys) = merge (merge acc a) ys
  | [], _ => rfl
  | c :: ys, h => by
    show merge acc (merge (addTo a c.1 c.2) ys) = merge (addTo (merge acc a) c.1 c.2) ys
    rw [merge_merge acc ys (nodup_addTo h _ _), merge_addTo h]
theorem merge_tab (acc : Tab) (ys : List Clr) : merge acc (tab ys) = merge acc ys := merge_merge acc ys (by simp)
theorem tab_cut (cs : List Clr) (k : Nat) : merge (tab (cs.take k)) (tab (cs.drop k)) = tab cs := by
  rw [merge_tab]
  unfold tab
  rw [← merge_append, List.take_append_drop]

def tot (t : Tab) : Int := (t.map (·.2)).sum
theorem tot_bump {k : Key} (v : Int) : ∀ {t : Tab}, (t.map (·.1)).Nodup → k ∈ t.map (·.1) → tot (t.map (bump k v)) = tot t + v
  | [], _, h => nomatch h
  | x :: t, hn, hk => by
    simp only [List.map_cons, List.nodup_cons] at hn
    unfold tot
    simp only [List.map_cons, List.sum_cons]
    by_cases e : x.1 = k
    · have hf : k ∉ t.map (·.1) := e ▸ hn.1
      rw [bump_free hf]
      simp [bump, e]; omega
    · have hk' : k ∈ t.map (·.1) := by
        rcases List.mem_cons.mp hk with q | q
        · exact absurd q.symm e
        · exact q
      have ih := tot_bump v hn.2 hk'
      unfold tot at ih
      rw [ih]
      simp [bump, e]; omega
theorem tot_addTo {t : Tab} (hn : (t.map (·.1)).Nodup) (k : Key) (v : Int) : tot (addTo t k v) = tot t + v := by
  unfold addTo
  split
  · rename_i hk; exact tot_bump v hn hk
  · simp [tot]
theorem tot_merge : ∀ {s t : Tab}, (t.map (·.1)).Nodup → tot (merge t s) = tot t + tot s
  | [], _, _ => by simp [merge, tot]
  | c :: s, t, h => by
    show tot (merge (addTo t c.1 c.2) s) = _
    rw [tot_merge (nodup_addTo h _ _), tot_addTo h]
    simp [tot]; omega
theorem tot_tab (cs : List Clr) : tot (tab cs) = (cs.map (·.2)).sum := by
  unfold tab
  rw [tot_merge (by simp)]
  simp [tot]
end Mine
end

section
open PySem PySem.W PyProof.Rows
namespace Mine

theorem slice_inner {g : List Nat} (h : 2 ≤ g.length) : Txt.slice (S g) (some 1) (some (-1)) = S ((g.drop 1).take (g.length - 2)) := by
  have hl : (S g).length = g.length := S_length g
  have e : Builtin.Str.strSliceIndices (some 1) (some (-1)) 1 (S g).length = Builtin.Str.strSliceIndices (some ((1 : Nat) : Int)) (some ((g.length - 1 : Nat) : Int)) 1 (S g).length := by
    simp only [Builtin.Str.strSliceIndices, hl]
    congr 1
    simp only [show ((-1 : Int) < 0) = True from by simp, if_true, show ((1 : Int) > 0) = True from by simp, show ¬ (((g.length - 1 : Nat) : Int) < 0) from by omega, if_false]
    omega
  have e2 := StrLaws.sliced_plain (S g) (a := 1) (b := g.length - 1) (by omega) (by rw [hl]; omega)
  have e3 := StrLaws.strSliceIndices_plain (a := 1) (b := g.length - 1) (len := (S g).length) (by omega) (by rw [hl]; omega)
  unfold Txt.slice
  rw [e]
  have hne : ((Builtin.Str.strSliceIndices (some ((1 : Nat) : Int)) (some ((g.length - 1 : Nat) : Int)) 1 (S g).length).length == (S g).length) = false := by
    rw [e3, List.length_map, List.length_range, hl]
    rw [beq_eq_false_iff_ne]; omega
  rw [hne, Bool.and_false, if_neg Bool.false_ne_true, e2, S_toList]
  have : g.length - 1 - 1 = g.length - 2 := by omega
  rw [this]
  rfl
theorem slice_drop {p : List Nat} {k : Nat} {i : Int} (hi : i = k) : Txt.slice (S p) (some i) none = S (p.drop k) := by
  subst hi
  by_cases h : k ≤ p.length
  · rw [slice_from_eq (b := ((S p).length : Nat)) (by omega) (by rw [S_length]; omega) rfl, S_toList]
    have e : ((p.drop ((k : Int).toNat)).take (((((S p).length : Nat) : Int) - (k : Int)).toNat)) = p.drop k := by
      rw [Int.toNat_natCast, S_length]
      exact List.take_of_length_le (by rw [List.length_drop]; omega)
    rw [e]; rfl
  · rw [slice_beyond (by rw [S_length]; omega), List.drop_of_length_le (by omega)]; rfl
theorem sw_S {g : List Nat} {c : Nat} : Txt.startswith (S (c :: g)) (S [c]) = true := by
  unfold Txt.startswith
  rw [StrLaws.subAt_eq, S_length, S_length, S_toList, S_toList]
  simp
theorem ew_S {g : List Nat} {c : Nat} : Txt.endswith (S (g ++ [c])) (S [c]) = true := by
  unfold Txt.endswith
  rw [StrLaws.subAt_eq, S_length, S_length, S_toList, S_toList]
  simp
end Mine
end

section
open PySem PySem.W PyProof.Rows PySem.Spec PySem.Calls
namespace Mine

abbrev Know := Addr → Obj → Prop
def Know.add (W : Know) (l : List (Addr × Obj)) : Know := fun a o => W a o ∨ (a, o) ∈ l

theorem enter {prog : Program} {w : World} {A₀ A : Around} {s : Shared} {base h₀ : Heap} {outer : List Env} {L : Addr} {m : Str → Option Value} {env : Env} {K : Frag}
    {p : Program} {loose : List Str} {mean : ExcName → Option Value} {mg mb : Str → Option Value}
    {R : Result → Shared → Prop} {name qual : Str} {params : Arguments} {body : List Stmt} {scope : Scope} {dV kV doc pm cdv ct oc : Value} {an od : Option Addr} {osl : Array (Option Value)} {f : Addr} {args : Args} {binds : List (Str × Value)}
    (B : Below A₀ base outer h₀) (F : Fr h₀ L s.heap m) (X : K.In h₀) (T : Top p loose mean mg mb h₀) (hA : A.frames = some (env :: outer)) (hf : env.frame = some L) (hke : env.scope.kind = .function)
    (ho : K.lookup f = some ⟨oc, od, .func (fnOf name qual params body scope dV kV doc pm an cdv ct), osl⟩) (hcd : codeIn K cdv qual = true) (hroom : A.depth < recursionLimit)
    (hbind : BindsTo s (fnOf name qual params body scope dV kV doc pm an cdv ct) args binds) (hloc : ∀ y ∈ binds, scope.names.lookup y.1 = some .local)
    (h : ∀ L' h₁, L' = s.heap.objs.size → Fr s.heap L' h₁ (fun y => binds.reverse.lookup y) → News s.heap L' h₁ [] → Below A base (env :: outer) s.heap → K.In s.heap → Top p loose mean mg mb s.heap →
      wpAny (model prog w) (A.deeper (envOf qual scope L' f cdv)) (execs body (envOf qual scope L' f cdv))
        (fun fl s' => R (.ok (.ret (match fl with | .ret v => v | _ => .none))) s') (fun _ _ => False)
        { s with heap := h₁, toks := s.toks + binds.length })
    (hco : scope.isCoroutine = false) (hgen : scope.isGenerator = false) (hk : scope.kind = .function)
    (hcell : ∀ x ∈ scope.names, x.2 ≠ .cell) : codeAny (model prog w) A (.call (.ref f) args) R s := by
  have X' := X.keeps F.keep
  have B' : Below A base (env :: outer) s.heap := by
    have B₁ := pushX B F hf hke
    exact ⟨hA, B₁.stays, B₁.frames⟩
  refine codeAny_call_def (fd := fnOf name qual params body scope dV kV doc pm an cdv ct) (body := body) (binds := binds) hroom (X' _ _ ho) rfl (T.nolimit.keeps F.keep) (codeRec_of X' hcd) rfl hbind hcell hloc (fun h₁ hns hk₁ => ?_) hco hgen hk
  exact wpAny_mono (h _ h₁ rfl ⟨hns, hk₁, Nat.le_refl _⟩ News.nil B' X' (T.keeps F.keep)) (fun fl s' hl => hl) (fun _ _ x => x.elim)

def Says (w : World) (loose : List Str) (mean : ExcName → Option Value) (mg mb : Str → Option Value) (f : Addr) (n : Nat) {D : Type} (Pre : Know → List Value → D → Prop) (Post : Know → Value → D → Prop) : Prop :=
  ∀ (d : D) (dp un : Nat) (gd : Option (List Code)) (cn : Str) (cs : Scope) (a : Addr) (ccd : Value) (cl : List (Str × Addr)) (outer : List Env) (A₀ : Around) (base h₀ : Heap) (L : Addr) (m : Str → Option Value) (s : Shared) (vs : List Value) (W : Know)
    (Q E : Value → Shared → Prop),
    Below A₀ base outer h₀ → Fr h₀ L s.heap m → (Mine.hd.heap_39 w.params).In h₀ → Top Mine.hd.view_39 loose mean mg mb h₀ → cs.kind = .function → (∀ a o, W a o → s.heap.get? a = some o) → Pre W vs d → dp + n < recursionLimit → un + 1000 * n < cLine →
    (∀ r tl h' tk', (∀ b o, s.heap.get? b = some o → h'.get? b = some o) → (∀ q ∈ tl, h'.get? q.1 = some q.2 ∧ s.heap.get? q.1 = none) → Post (W.add tl) r d → Q r { s with heap := h', toks := tk' }) →
    wpAny (model PySem.Challenge.rw_mq0071_01.row.prog w) (ktrTop dp un gd cn cs L a ccd cl outer) (call (.ref f) vs) Q E s

theorem fr_stays {h₀ h h' : Heap} {L : Addr} {m : Str → Option Value} (F : Fr h₀ L h m) (k : ∀ b o, h.get? b = some o → h'.get? b = some o) : Fr h₀ L h' m :=
  ⟨F.ns.keeps k, fun b o e => k b o (F.keep b o e), F.above⟩
theorem news_stays {h₀ h h' : Heap} {L : Addr} {m : Str → Option Value} {news tl : List (Addr × Obj)} (F : Fr h₀ L h m) (N : News h₀ L h news) (k : ∀ b o, h.get? b = some o → h'.get? b = some o)
    (ht : ∀ q ∈ tl, h'.get? q.1 = some q.2 ∧ h.get? q.1 = none) : News h₀ L h' (tl ++ news) := by
  intro p hp
  rcases List.mem_append.mp hp with hp | hp
  · obtain ⟨h1, h2⟩ := ht p hp
    refine ⟨h1, ?_, ?_⟩
    · rintro rfl
      obtain ⟨oL, _, _, hL, _⟩ := F.ns
      rw [hL] at h2; cases h2
    · cases q : h₀.get? p.1 with
      | none => rfl
      | some o => rw [F.keep _ _ q] at h2; cases h2
  · obtain ⟨h1, h2⟩ := N p hp
    exact ⟨k _ _ h1, h2⟩
theorem my_len {prog : Program} {w : World} {A : Around} {E : Value → Shared → Prop} {s : Shared} {h₀ : Heap} {L a : Addr} {news : List (Addr × Obj)} {vs : List Value} {k n : Nat} {Q : Value → Shared → Prop}
    (N : News h₀ L s.heap news) (hm : (a, listOf vs.toArray k) ∈ news) (hn : vs.length = n) (hfit : n < 1000000) (h : Q (.int n (s.toks + 1)) { s with toks := s.toks + 1 + 1 }) :
    wpAny (model prog w) A (call (.builtin "len") [.ref a]) Q E s := by
  subst hn
  refine len_list (items := vs.toArray) ⟨_, N.get hm, rfl, k, rfl⟩ (by simp only [List.size_toArray]; omega) ?_
  simpa only [List.size_toArray] using h
def Hold (P : Prop) : Prop := P
theorem hold {P : Prop} (h : Hold P) : P := h
theorem Hold.mk {P : Prop} (h : P) : Hold P := h
theorem news_new {h₀ h : Heap} {L : Addr} {news : List (Addr × Obj)} (N : News h₀ L h news) : ∀ q ∈ news, h.get? q.1 = some q.2 ∧ h₀.get? q.1 = none := fun q hq => ⟨(N q hq).1, (N q hq).2.2⟩
end Mine
end

section
open PySem PySem.W PyProof.Rows PySem.Spec PySem.Calls
namespace Mine

theorem pick_upto (vs : List Value) {y : Int} (h : 0 ≤ y) : (slicePick vs.toArray none (some y) none).toList = vs.take y.toNat := by
  have e : sliceBounds none (some y) none vs.toArray.size = (((0 : Nat) : Int), ((min y.toNat vs.toArray.size : Nat) : Int), 1) := by
    simp only [sliceBounds, Option.getD_none, show (1 : Int) > 0 by decide, if_true, if_neg (show ¬ (y < 0) by omega)]
    congr 1
    congr 1
    omega
  rw [kmk_pick_nat _ e]
  show (vs.drop 0).take (min y.toNat vs.toArray.size - 0) = _
  rw [List.drop_zero, Nat.sub_zero, List.size_toArray, kmk_take_min]
theorem pick_from (vs : List Value) {x : Int} (h : 0 ≤ x) : (slicePick vs.toArray (some x) none none).toList = vs.drop x.toNat := by
  have e : sliceBounds (some x) none none vs.toArray.size = (((min x.toNat vs.toArray.size : Nat) : Int), ((vs.toArray.size : Nat) : Int), 1) := by
    simp only [sliceBounds, Option.getD_none, show (1 : Int) > 0 by decide, if_true, if_neg (show ¬ (x < 0) by omega)]
    congr 1
    omega
  rw [kmk_pick_nat _ e]
  show (vs.drop (min x.toNat vs.toArray.size)).take (vs.toArray.size - min x.toNat vs.toArray.size) = _
  rw [List.size_toArray, kmk_drop_min, List.take_of_length_le (by rw [List.length_drop]; omega)]

theorem jn_length (sep : List Nat) : ∀ {ps : List (List Nat)}, ps ≠ [] → (jn sep ps).length + sep.length = (ps.map (·.length)).sum + ps.length * sep.length
  | [], h => absurd rfl h
  | [p], _ => by simp [jn]
  | p :: q :: r, _ => by
    have h := jn_length sep (ps := q :: r) (by simp)
    rw [jn_cons _ _ (by simp)]
    simp only [List.length_append, List.map_cons, List.sum_cons, List.length_cons, Nat.succ_mul] at h ⊢
    omega
theorem joinOk_S {sep : List Nat} {ps : List (List Nat)} (h : (jn sep ps).length + sep.length ≤ 16000000) : JoinOk (S sep) (ps.map S) = true := by
  unfold JoinOk
  rw [StrLaws.joinTotal]
  have e : ((ps.map S).map (·.length)).sum + (ps.map S).length * (S sep).length = (ps.map (·.length)).sum + ps.length * sep.length := by
    rw [List.map_map, List.length_map, S_length]
    have : ps.map ((fun x : Str => x.length) ∘ S) = ps.map (·.length) := List.map_congr_left fun p _ => S_length p
    rw [this]
  rw [e]
  have h2 : (ps.map (·.length)).sum + ps.length * sep.length ≤ 16000000 := by
    by_cases hp : ps = []
    · subst hp; simp
    · rw [← jn_length sep hp]; exact h
  simp only [Builtin.Str.tooLong, Bool.not_eq_true', decide_eq_false_iff_not, sizeLine_eq]
  omega
theorem join_len_le {sep : List Nat} {ps : List (List Nat)} {p : List Nat} (h : p ∈ ps) : p.length ≤ (jn sep ps).length := by
  induction ps with
  | nil => cases h
  | cons q r ih =>
    cases r with
    | nil => rw [List.mem_singleton.mp h]; exact Nat.le_refl _
    | cons q' r =>
      rw [jn_cons _ _ (by simp)]
      simp only [List.length_append]
      rcases List.mem_cons.mp h with rfl | h
      · omega
      · have := ih h; omega
theorem len_jn_ge {sep : List Nat} (hs : 1 ≤ sep.length) : ∀ {ps : List (List Nat)}, ps.length ≤ (jn sep ps).length + 1
  | [] => by simp
  | [p] => by simp
  | p :: q :: r => by
    have h := len_jn_ge hs (ps := q :: r)
    rw [jn_cons _ _ (by simp)]
    simp only [List.length_append, List.length_cons] at h ⊢
    omega

section
variable {prog : Program} {w : World} {A : Around} {E : Value → Shared → Prop} {s : Shared} {h₀ : Heap} {L D : Addr} {news : List (Addr × Obj)} {Q : Value → Shared → Prop}
theorem my_join {sep : List Nat} {sx : Str} {t : Tok} {l : List (Str × Tok)} {k : Nat} {ps : List (List Nat)} (N : News h₀ L s.heap news) (hx : sx = S sep) (hm : (D, listOf (strValues l).toArray k) ∈ news) (ht : l.map (·.1) = ps.map S)
    (hb : (jn sep ps).length + sep.length ≤ 16000000) (h : ∀ t' k, Q (.str (S (jn sep ps)) t') { s with toks := k }) : wpAny (model prog w) A (call (.builtin "str.join") [.str sx t, .ref D]) Q E s := by
  subst hx
  refine SC.join (texts := ps.map S) ⟨_, N.get hm, rfl, k, rfl⟩ ht (joinOk_S hb) fun t' k => ?_
  have e : Txt.join (S sep) (ps.map S) = S (jn sep ps) := by
    show Builtin.Str.glued (S sep) (ps.map S) = _
    rw [StrLaws.glued_eq_join, join_S]
  rw [e]
  exact h t' k
end
end Mine
end

section
open PySem PySem.W PyProof.Rows PySem.Spec PySem.Calls
namespace Mine

theorem peek1_push {α : Type} {K : Frag} {M : Model} {A : Around} {E : Value → Shared → Prop} {Q : α → Shared → Prop} {s : Shared} {o : Obj} {r : Addr → α} (X : K.In s.heap)
    (q : Q (r s.heap.objs.size) { s with heap := s.heap.push o }) :
    ∀ (t : Sem α) (g : Addr → Option α), peek1 K ⟨M.prog, M.w.params⟩ t = some (o, g) → (∀ D, g D = some (r D)) → wpAny M A t Q E s := by
  intro t
  induction t with
  | rule _ k ih => intro g e hg Γ p hΓ; exact ih () g e hg Γ p hΓ
  | point _ k ih => intro g e hg Γ p hΓ; exact ih () g e hg Γ p hΓ
  | ask k ih => intro g e hg Γ p hΓ; exact ih _ g e hg Γ p hΓ
  | load a _ k ih =>
    intro g e hg Γ p hΓ
    simp only [peek1] at e
    split at e
    · rename_i ob ho; exact ⟨ob, X _ _ ho, ih ob g e hg Γ p hΓ⟩
    · cases e
  | alloc ob k _ =>
    intro g e hg
    have e : some (ob, fun D => peek K ⟨M.prog, M.w.params⟩ (k D)) = some (o, g) := e
    obtain ⟨e1, e2⟩ := Prod.mk.inj (Option.some.inj e)
    subst e1
    subst e2
    have X' : K.In (s.heap.push ob) := X.keeps fun b x hb => Heap.get?_push_of_some _ hb
    show wpAny M A (alloc ob >>= k) Q E s
    refine wpAny_bind (wpAny_alloc ?_)
    exact (Looks.of_peek (M := M) (h := s.heap.push ob) X' (hg s.heap.objs.size)).here (s := { s with heap := s.heap.push ob }) q
  | _ => intro g e; cases e

theorem enter_rest {prog : Program} {w : World} {A₀ A : Around} {s : Shared} {base h₀ : Heap} {outer : List Env} {L : Addr} {m : Str → Option Value} {env : Env} {K : Frag}
    {p : Program} {loose : List Str} {mean : ExcName → Option Value} {mg mb : Str → Option Value}
    {R : Result → Shared → Prop} {name qual : Str} {params : Arguments} {body : List Stmt} {scope : Scope} {dV kV doc pm cdv ct oc : Value} {an od : Option Addr} {osl : Array (Option Value)} {f : Addr} {args : Args}
    {vs : List Value} {g₁ : Addr → Option (List (Str × Value))} {binds : Addr → List (Str × Value)}
    (B : Below A₀ base outer h₀) (F : Fr h₀ L s.heap m) (X : K.In h₀) (T : Top p loose mean mg mb h₀) (hA : A.frames = some (env :: outer)) (hf : env.frame = some L) (hke : env.scope.kind = .function)
    (ho : K.lookup f = some ⟨oc, od, .func (fnOf name qual params body scope dV kV doc pm an cdv ct), osl⟩) (hcd : codeIn K cdv qual = true) (hroom : A.depth < recursionLimit)
    (hv : args.pos.drop (params.posonlyargs.length + params.args.length) = vs)
    (hp : peek1 K ⟨prog, w.params⟩ (bindArgs (fnOf name qual params body scope dV kV doc pm an cdv ct) args) = some (({ cls := .type "tuple", data := .seq vs.toArray } : Obj), g₁))
    (hg : ∀ D, g₁ D = some (binds D)) (hloc : ∀ D, ∀ y ∈ binds D, scope.names.lookup y.1 = some .local)
    (h : ∀ D L' h₁, Fr s.heap L' h₁ (fun y => (binds D).reverse.lookup y) → News s.heap L' h₁ [(D, ({ cls := .type "tuple", data := .seq vs.toArray } : Obj))] → Below A base (env :: outer) s.heap → K.In s.heap → Top p loose mean mg mb s.heap →
      wpAny (model prog w) (A.deeper (envOf qual scope L' f cdv)) (execs body (envOf qual scope L' f cdv))
        (fun fl s' => R (.ok (.ret (match fl with | .ret v => v | _ => .none))) s') (fun _ _ => False)
        { s with heap := h₁, toks := s.toks + (binds D).length })
    (hco : scope.isCoroutine = false) (hgen : scope.isGenerator = false) (hk : scope.kind = .function)
    (hcell : ∀ x ∈ scope.names, x.2 ≠ .cell) : codeAny (model prog w) A (.call (.ref f) args) R s := by
  have _ := hv
  have X' := X.keeps F.keep
  have B' : Below A base (env :: outer) s.heap := by
    have B₁ := pushX B F hf hke
    exact ⟨hA, B₁.stays, B₁.frames⟩
  refine codeAny_call_function (fd := fnOf name qual params body scope dV kV doc pm an cdv ct) (body := body) hroom (X' _ _ ho) rfl hco hgen rfl (codeRec_of X' hcd) ?_
  refine peek1_push (o := ({ cls := .type "tuple", data := .seq vs.toArray } : Obj)) X' (r := binds) ?_ _ g₁ hp hg
  have keep1 : ∀ b o, s.heap.get? b = some o → (s.heap.push ({ cls := .type "tuple", data := .seq vs.toArray } : Obj)).get? b = some o := fun b o e => Heap.get?_push_of_some _ e
  refine wpAny_newFunctionEnv hcell (hloc _) (fun h₁ hns hsb => ⟨((T.nolimit.keeps F.keep).keeps keep1).fresh _ hsb, codeAny_func ?_⟩) hk
  have hsz : (s.heap.push ({ cls := .type "tuple", data := .seq vs.toArray } : Obj)).objs.size = s.heap.objs.size + 1 := Heap.size_push ..
  have hk₁ : ∀ b o, (s.heap.push ({ cls := .type "tuple", data := .seq vs.toArray } : Obj)).get? b = some o → h₁.get? b = some o := fun b o e => hsb.extBut b o (Nat.ne_of_lt (Heap.lt_size e)) (Heap.get?_push_of_some _ e)
  refine wpAny_mono (h s.heap.objs.size (s.heap.push ({ cls := .type "tuple", data := .seq vs.toArray } : Obj)).objs.size h₁ ⟨hns, fun b o e => hk₁ b o (keep1 b o e), by rw [hsz]; exact Nat.le_succ _⟩ ?_ B' X' (T.keeps F.keep)) (fun fl s' hl => hl) (fun _ _ x => x.elim)
  intro q hq
  rw [List.mem_singleton.mp hq]
  refine ⟨hk₁ _ _ (Heap.get?_push_size _ rfl), by rw [hsz]; exact Nat.ne_of_lt (Nat.lt_succ_self _), ?_⟩
  cases e : s.heap.get? s.heap.objs.size with
  | none => rfl
  | some o => exact absurd (Heap.lt_size e) (Nat.lt_irrefl _)

theorem sub_len (c : Nat) (z : List Nat) (k : Nat) (hz : z.length ≤ k) (hk : 1 ≤ k) : ∀ l : List Nat, (sub c z l).length ≤ k * l.length
  | [] => by simp [sub]
  | d :: l => by
    have h := sub_len c z k hz hk l
    show ((if d = c then z else [d]) ++ sub c z l).length ≤ _
    rw [List.length_append, List.length_cons, Nat.mul_succ]
    split
    · omega
    · simp only [List.length_singleton]; omega

section
variable {prog : Program} {w : World} {A : Around} {E : Value → Shared → Prop} {s : Shared} {h₀ : Heap} {L D : Addr} {news : List (Addr × Obj)} {Q : Value → Shared → Prop}
theorem my_tup_from2 {m : Str → Option Value} {value slice : Expr} {t : Addr} {vs : List Value} {k : Nat} {u : Tok} (F : Fr h₀ L s.heap m) (N : News h₀ L s.heap news)
    (hm : (t, ({ cls := .type "tuple", data := .seq vs.toArray k } : Obj)) ∈ news) (ha : 2 ≤ vs.length) (hz : vs.length ≤ 1000)
    (h : ∀ D h', Fr h₀ L h' m → News h₀ L h' ((D, ({ cls := .type "tuple", data := .seq (vs.drop 2).toArray } : Obj)) :: news) → Q (.ref D) { s with heap := h' })
    (hs : subscripted slice false (.ref t) (.ref s.heap.objs.size) = operate [.ref s.heap.objs.size, .ref t] (getItem (.ref t) (.ref s.heap.objs.size)))
    (hg : ∀ r, letTemporaryGo value (.ref t) r = pure ()) :
    wpAny (model prog w) A (subscriptTail value slice (.ref t) (.ref s.heap.objs.size)) Q E { s with heap := s.heap.push { cls := .type "slice", data := .fields #[.int 2 u, .none, .none] } } :=
  slice_tuple_from (a := 2) F N (items := vs.toArray) ⟨_, N.get hm, rfl, k, rfl⟩ (by decide) (by simpa using ha) (fun h' F' N' => h _ h' F' N') hs hg (by rw [List.size_toArray, sizeLine_eq]; omega)
theorem my_join_sub {z x : List Nat} {c : Nat} {t : Tok} {l : List (Str × Tok)} {k : Nat} (N : News h₀ L s.heap news) (hm : (D, listOf (strValues l).toArray k) ∈ news) (ht : l.map (·.1) = Txt.split (S x) (S [c]))
    (hb : (sub c z x).length + z.length ≤ 16000000) (h : ∀ t' k, Q (.str (S (sub c z x)) t') { s with toks := k }) : wpAny (model prog w) A (call (.builtin "str.join") [.str (S z) t, .ref D]) Q E s := by
  obtain ⟨ps, _, h2, h3, h4⟩ := split_parts c x
  have e : sub c z x = jn z ps := by rw [← h3, sub_jn h2]
  rw [e] at hb h
  exact my_join N rfl hm (ht.trans h4) hb h
end
end Mine
end

section
open PySem PySem.W PyProof.Rows PySem.Spec PySem.Calls
namespace Mine

abbrev tupOf (vs : List Value) (n : Nat) : Obj := { cls := .type "tuple", data := .seq vs.toArray n }

section
variable {prog : Program} {w : World} {A : Around} {E : Value → Shared → Prop} {s : Shared}

theorem sliceApplied_upto2 {sl : Addr} {u : Tok} {Q : Int × Int × Nat → Shared → Prop} (hs : s.heap.IsSliceOf sl .none (.int 2 u) .none) (h : Q (0, 1, 2) s) :
    wpAny (model prog w) A (Builtin.Slice.sliceApplied (.ref sl) (pure (3 : Int))) Q E s := by
  obtain ⟨os, hos, hcs, hds⟩ := id hs
  unfold Builtin.Slice.sliceApplied Builtin.Slice.sliceFields
  refine wpAny_bind (wpAny_bind (wpAny_field hos hds (x := .none) rfl (wpAny_bind (wpAny_field hos hds (x := .int 2 u) rfl (wpAny_bind (wpAny_field hos hds (x := .none) rfl (wpAny_pure ?_)))))))
  refine wpAny_bind (slicePart_none ?_)
  show wpAny _ _ (if ((1 : Int) == 0) = true then _ else _) _ _ s
  rw [if_neg (by decide)]
  refine wpAny_bind (slicePart_none (wpAny_bind (slicePart_int (wpAny_bind (wpAny_pure ?_)))))
  exact wpAny_pure h

theorem getItem_tuple_upto2 {t sl : Addr} {x y z : Value} {u : Tok} {Q : Value → Shared → Prop} (ht : IsTup s.heap t #[x, y, z]) (hs : s.heap.IsSliceOf sl .none (.int 2 u) .none)
    (h : Q (.ref s.heap.objs.size) { s with heap := s.heap.push (tupOf [x, y] 0) }) : wpAny (model prog w) A (getItem (.ref t) (.ref sl)) Q E s := by
  obtain ⟨os, hos, hcs, hds⟩ := id hs
  have hTs : s.TypeIs (.ref sl) "slice" := ⟨os, hos, hcs⟩
  unfold getItem
  try with_reducible refine wpAny_holding ?_
  first | refine wpAny_bind (wpAny_pure ?_) | skip
  refine wpAny_bind (wpAny_sequenceKey ht.typeIs (by decide) ?_)
  refine wpAny_bind (wpAny_callSpecial?_slot (name := Str.ofString "__getitem__") ht.typeIs slot_tuple_getitem
    (wpAny_call_entry slot_tuple_getitem ht.typeIs entry_tuple_getitem ?_ (args_tuple_getitem _ _)))
  show wpAny _ _ (Builtin.Tuple.tupleItemsOf (.ref t) >>= _) _ _ s
  refine wpAny_bind (tupleItemsOf_ ht ?_)
  refine wpAny_bind (wpAny_typeOf hTs ?_)
  rw [if_pos (by decide)]
  refine wpAny_bind (sliceApplied_upto2 hs ?_)
  have hz : sizeOk (.seq #[x, y]) := by show (2 : Nat) ≤ sizeLine; rw [sizeLine_eq]; decide
  show wpAny _ _ (if ((0 : Int) == 0 && (1 : Int) == 1 && (2 : Nat) == 3) = true then _ else _) _ _ s
  rw [if_neg (by decide)]
  first
    | exact wpAny_bind (m := Builtin.Tuple.tupleExact _) (wpAny_newObj_type (wpAny_pure ⟨_, rfl, wpAny_pure h⟩) hz)
    | exact wpAny_bind (m := Builtin.Tuple.tupleExact _) (wpAny_newObj_type (wpAny_bind (wpAny_pure (wpAny_pure ⟨_, rfl, wpAny_pure h⟩))) hz)
    | exact wpAny_bind (wpAny_bind (m := Builtin.Tuple.tupleExact _) (wpAny_newObj_type (wpAny_pure (wpAny_pure ⟨_, rfl, wpAny_pure h⟩)) hz))
    | exact wpAny_bind (wpAny_bind (m := Builtin.Tuple.tupleExact _) (wpAny_newObj_type (wpAny_pure ⟨_, rfl, wpAny_pure h⟩) hz))
end

section
variable {prog : Program} {w : World} {A : Around} {E : Value → Shared → Prop} {s : Shared} {h₀ : Heap} {L : Addr} {m : Str → Option Value} {news : List (Addr × Obj)} {Q : Value → Shared → Prop}
theorem my_tup_upto2 {value slice : Expr} {t : Addr} {x y z : Value} {u : Tok} (F : Fr h₀ L s.heap m) (N : News h₀ L s.heap news) (ht : IsTup s.heap t #[x, y, z])
    (h : ∀ D h', Fr h₀ L h' m → News h₀ L h' ((D, tupOf [x, y] 0) :: news) → Q (.ref D) { s with heap := h' })
    (hs : subscripted slice false (.ref t) (.ref s.heap.objs.size) = operate [.ref s.heap.objs.size, .ref t] (getItem (.ref t) (.ref s.heap.objs.size)))
    (hg : ∀ r, letTemporaryGo value (.ref t) r = pure ()) :
    wpAny (model prog w) A (subscriptTail value slice (.ref t) (.ref s.heap.objs.size)) Q E { s with heap := s.heap.push { cls := .type "slice", data := .fields #[.none, .int 2 u, .none] } } := by
  have ht' : IsTup (s.heap.push { cls := .type "slice", data := .fields #[.none, .int 2 u, .none] }) t #[x, y, z] := ht.keeps fun _ _ e => Heap.get?_push_of_some _ e
  refine subscriptTail_ops (s := { s with heap := s.heap.push { cls := .type "slice", data := .fields #[.none, .int 2 u, .none] } }) ht'.typeIs slot_tuple_getitem.lookup
    (getItem_tuple_upto2 ht' (Heap.IsSliceOf.new ..) ?_) hs hg
  have N1 := News.push (F.push { cls := .type "slice", data := .fields #[.none, .int 2 u, .none] }) (N.grown fun _ _ e => Heap.get?_push_of_some _ e) (tupOf [x, y] 0)
  exact h _ _ ((F.push _).push _) N1

theorem mod_tupleH {X X' T : Str} {t : Tok} {b : Addr} {its : Array Value} (ht : IsTup s.heap b its) (hX : X = X')
    (hm : Meets (Builtin.«str.__mod__» ⟨[.str X' t, .ref b], []⟩) (fun _ R s => IsTup s.heap b its ∧ ∀ t' k, R (.ok (.ret (.str T t'))) { s with toks := k }))
    (h : ∀ t' k, Q (.str T t') { s with toks := k }) : wpAny (model prog w) A (binaryOp .Mod (.str X t) (.ref b)) Q E s := by
  subst hX
  have hT : s.TypeIs (.ref b) "tuple" := by
    obtain ⟨o, ho, hc, _⟩ := ht
    exact ⟨o, ho, hc⟩
  exact KPt.bin_left (T := "str") (U := "tuple") (op := .Mod) (by decide) (typeIs_str s X t) hT F.fills_str_mod KPt.fills_tuple F.slot_str_mod
    (call_meets F.slot_str_mod (typeIs_str s X t) F.entry_str_mod (F.args_str_mod_2 _ _) hm ⟨ht, fun t' k => ⟨(fun e => nomatch e), h t' k⟩⟩)
end

section
variable {prog : Program} {w : World} {A : Around} {E : Value → Shared → Prop} {s : Shared} {h₀ : Heap} {L : Addr} {news : List (Addr × Obj)} {Q : Value → Shared → Prop}
theorem my_eq2 {a b : Addr} {x y : Str} {i j : Int} {t1 t2 u1 u2 : Tok} {n1 n2 : Nat} {r : Bool} (N : News h₀ L s.heap news) (h1 : (a, tupOf [.str x t1, .int i t2] n1) ∈ news) (h2 : (b, tupOf [.str y u1, .int j u2] n2) ∈ news)
    (ox : PyData.strOk x = true) (oy : PyData.strOk y = true) (hu : A.units + 64 < cLine) (hr : (decide (x = y) && decide (i = j)) = r) (h : Q (.bool r) s) : wpAny (model prog w) A (compareOp .Eq (.ref a) (.ref b)) Q E s := by
  refine eq_dataH (da := .tuple [.str x, .int i]) (db := .tuple [.str y, .int j]) (reads_tuple_at (N.get h1) rfl rfl (.cons (.str x t1) (.cons (.int i t2) .nil))) (reads_tuple_at (N.get h2) rfl rfl (.cons (.str y u1) (.cons (.int j u2) .nil))) ?_ ?_ hu ?_
  · simp [SeqAt.shaped, PyData.canLay0, PyData.canLayAll0, PyData.depth, PyData.depthAll, ox]
  · simp [SeqAt.shaped, PyData.canLay0, PyData.canLayAll0, PyData.depth, PyData.depthAll, oy]
  · have e : PyData.eqv (.tuple [.str x, .int i]) (.tuple [.str y, .int j]) = r := by
      rw [← hr]
      simp only [PyData.eqv, PyData.eqvAll, Bool.and_true]
      congr 1
    rw [e]; exact h
end

def fmt : Str := ⟨#[37, 115, 58, 37, 100, 40, 37, 115, 41]⟩
theorem fmt_eq : Str.ofString "%s:%d(%s)" = fmt := by decide +kernel

def KeyAt (W : Know) (k : Key) (a : Addr) : Prop := ∃ t1 t2 t3 n, W a (tupOf [.str (S k.1) t1, .int k.2.1 t2, .str (S k.2.2) t3] n)
theorem strOk_S {l : List Nat} (h : ∀ d ∈ l, d < 0x110000) : PyData.strOk (S l) = true := by
  unfold PyData.strOk
  rw [← Array.all_toList, S_toList, List.all_eq_true]
  exact fun d hd => decide_eq_true (h d hd)
theorem tilde_S : Str.ofString "~" = S [126] := by decide +kernel
theorem lt_S : Str.ofString "<" = S [60] := by decide +kernel
theorem gt_S : Str.ofString ">" = S [62] := by decide +kernel
theorem top_eq (k : Key) : (decide (S k.1 = Str.ofString "~") && decide (k.2.1 = 0)) = isTop k := by
  rw [tilde_S]
  unfold isTop
  have : decide (S k.1 = S [126]) = (k.1 == [126]) := by
    by_cases e : k.1 = [126]
    · simp [e]
    · have : ¬ S k.1 = S [126] := fun q => e (S_inj q)
      simp [e, this]
  rw [this]
  by_cases e : k.2.1 = 0 <;> simp [e]
end Mine
end

section
open PySem PySem.W PyProof.Rows PySem.Spec PySem.Calls
namespace Mine
set_option maxRecDepth 100000 in
set_option maxHeartbeats 4000000 in
theorem meets_line0 {f g : Str} (hf : f.length ≤ 1000000) (hg : g.length ≤ 1000000) {t t1 t2 t3 : Tok} {b : Addr} : ∃ T, T = f ++ Str.ofString ":" ++ Str.ofString "0" ++ Str.ofString "(" ++ g ++ Str.ofString ")" ∧
    Meets (Builtin.«str.__mod__» ⟨[.str ⟨#[37, 115, 58, 37, 100, 40, 37, 115, 41]⟩ t, .ref b], []⟩) (fun _ R s => IsTup s.heap b #[.str f t1, .int (0) t2, .str g t3] ∧ ∀ t' k, R (.ok (.ret (.str T t'))) { s with toks := k }) := by
  refine ⟨?T, ?e, ?m⟩
  case m =>
    apply KPt.meets_tup
    intro _ _ _ _ _ _ hh _
    obtain ⟨oo, og, oc, on, od⟩ := hh
    rw [KPt.entry_is_r]
    unfold Builtin.Str.percentFormat
    refine wpAny_bind (wpAny_isInstance (T := "tuple") ⟨oo, og, oc⟩ KPt.sub_tt ?_)
    refine wpAny_bind (KPt.asStr_ref og od ?_)
    refine wpAny_bind (KPt.fills_ref ⟨oo, og, oc⟩ ?_)
    intro _
    kpc_if
    refine wpAny_bind (wpAny_seqItems og od ?_)
    refine wpAny_bind (wpAny_pure ?_)
    refine wpAny_bind ?_
    rw [KPc.range_list]
    refine KPc.start ?_
    intro _ _
    refine KPc.turn ?_; kpc_check; (repeat kpc_if)
    refine wpAny_pure ?_
    refine KPc.after_str0 (by kpc_g) (by kpt_len) (by kpc_obj) ?_; intro _ _
    refine KPc.turn ?_; kpc_check; (repeat kpc_if)
    refine wpAny_pure ?_
    refine KPc.after_add (by kpc_g) (by kpc_text) (by kpc_obj) ?_; intro _ _
    refine KPc.turn ?_; kpc_check; (repeat kpc_if)
    refine wpAny_bind ?_
    refine wpAny_holding ?_
    (repeat kpc_if); kpt_conv
    refine wpAny_pure ?_
    refine wpAny_pure ?_
    refine KPc.after_int (by kpc_g) rfl (by kpc_kind) rfl (by kpt_fact) (by kpt_fact) rfl (by kpc_none) ?_; intro _ _
    refine KPc.turn ?_; kpc_check; (repeat kpc_if)
    refine wpAny_pure ?_
    refine KPc.after_add (by kpc_g) (by kpc_text) (by kpc_obj) ?_; intro _ _
    refine KPc.turn ?_; kpc_check; (repeat kpc_if)
    refine wpAny_pure ?_
    refine KPc.after_str (by kpc_g) (by kpt_len) (by kpc_obj) ?_; intro _ _
    refine KPc.turn ?_; kpc_check; (repeat kpc_if)
    refine wpAny_pure ?_
    refine KPc.after_add (by kpc_g) (by kpc_text) (by kpc_obj) ?_; intro _ _
    refine KPc.turn ?_; kpc_check; (repeat kpc_if); kpc_close
  case e => rfl
set_option maxRecDepth 100000 in
set_option maxHeartbeats 4000000 in
theorem meets_line12 {f g : Str} (hf : f.length ≤ 1000000) (hg : g.length ≤ 1000000) {t t1 t2 t3 : Tok} {b : Addr} : ∃ T, T = f ++ Str.ofString ":" ++ Str.ofString "12" ++ Str.ofString "(" ++ g ++ Str.ofString ")" ∧
    Meets (Builtin.«str.__mod__» ⟨[.str ⟨#[37, 115, 58, 37, 100, 40, 37, 115, 41]⟩ t, .ref b], []⟩) (fun _ R s => IsTup s.heap b #[.str f t1, .int (12) t2, .str g t3] ∧ ∀ t' k, R (.ok (.ret (.str T t'))) { s with toks := k }) := by
  refine ⟨?T, ?e, ?m⟩
  case m =>
    apply KPt.meets_tup
    intro _ _ _ _ _ _ hh _
    obtain ⟨oo, og, oc, on, od⟩ := hh
    rw [KPt.entry_is_r]
    unfold Builtin.Str.percentFormat
    refine wpAny_bind (wpAny_isInstance (T := "tuple") ⟨oo, og, oc⟩ KPt.sub_tt ?_)
    refine wpAny_bind (KPt.asStr_ref og od ?_)
    refine wpAny_bind (KPt.fills_ref ⟨oo, og, oc⟩ ?_)
    intro _
    kpc_if
    refine wpAny_bind (wpAny_seqItems og od ?_)
    refine wpAny_bind (wpAny_pure ?_)
    refine wpAny_bind ?_
    rw [KPc.range_list]
    refine KPc.start ?_
    intro _ _
    refine KPc.turn ?_; kpc_check; (repeat kpc_if)
    refine wpAny_pure ?_
    refine KPc.after_str0 (by kpc_g) (by kpt_len) (by kpc_obj) ?_; intro _ _
    refine KPc.turn ?_; kpc_check; (repeat kpc_if)
    refine wpAny_pure ?_
    refine KPc.after_add (by kpc_g) (by kpc_text) (by kpc_obj) ?_; intro _ _
    refine KPc.turn ?_; kpc_check; (repeat kpc_if)
    refine wpAny_bind ?_
    refine wpAny_holding ?_
    (repeat kpc_if); kpt_conv
    refine wpAny_pure ?_
    refine wpAny_pure ?_
    refine KPc.after_int (by kpc_g) rfl (by kpc_kind) rfl (by kpt_fact) (by kpt_fact) rfl (by kpc_none) ?_; intro _ _
    refine KPc.turn ?_; kpc_check; (repeat kpc_if)
    refine wpAny_pure ?_
    refine KPc.after_add (by kpc_g) (by kpc_text) (by kpc_obj) ?_; intro _ _
    refine KPc.turn ?_; kpc_check; (repeat kpc_if)
    refine wpAny_pure ?_
    refine KPc.after_str (by kpc_g) (by kpt_len) (by kpc_obj) ?_; intro _ _
    refine KPc.turn ?_; kpc_check; (repeat kpc_if)
    refine wpAny_pure ?_
    refine KPc.after_add (by kpc_g) (by kpc_text) (by kpc_obj) ?_; intro _ _
    refine KPc.turn ?_; kpc_check; (repeat kpc_if); kpc_close
  case e => rfl
set_option maxRecDepth 100000 in
set_option maxHeartbeats 4000000 in
theorem meets_lineN {f g : Str} (hf : f.length ≤ 1000000) (hg : g.length ≤ 1000000) {t t1 t2 t3 : Tok} {b : Addr} : ∃ T, T = f ++ Str.ofString ":" ++ Str.ofString "-1" ++ Str.ofString "(" ++ g ++ Str.ofString ")" ∧
    Meets (Builtin.«str.__mod__» ⟨[.str ⟨#[37, 115, 58, 37, 100, 40, 37, 115, 41]⟩ t, .ref b], []⟩) (fun _ R s => IsTup s.heap b #[.str f t1, .int (-1) t2, .str g t3] ∧ ∀ t' k, R (.ok (.ret (.str T t'))) { s with toks := k }) := by
  refine ⟨?T, ?e, ?m⟩
  case m =>
    apply KPt.meets_tup
    intro _ _ _ _ _ _ hh _
    obtain ⟨oo, og, oc, on, od⟩ := hh
    rw [KPt.entry_is_r]
    unfold Builtin.Str.percentFormat
    refine wpAny_bind (wpAny_isInstance (T := "tuple") ⟨oo, og, oc⟩ KPt.sub_tt ?_)
    refine wpAny_bind (KPt.asStr_ref og od ?_)
    refine wpAny_bind (KPt.fills_ref ⟨oo, og, oc⟩ ?_)
    intro _
    kpc_if
    refine wpAny_bind (wpAny_seqItems og od ?_)
    refine wpAny_bind (wpAny_pure ?_)
    refine wpAny_bind ?_
    rw [KPc.range_list]
    refine KPc.start ?_
    intro _ _
    refine KPc.turn ?_; kpc_check; (repeat kpc_if)
    refine wpAny_pure ?_
    refine KPc.after_str0 (by kpc_g) (by kpt_len) (by kpc_obj) ?_; intro _ _
    refine KPc.turn ?_; kpc_check; (repeat kpc_if)
    refine wpAny_pure ?_
    refine KPc.after_add (by kpc_g) (by kpc_text) (by kpc_obj) ?_; intro _ _
    refine KPc.turn ?_; kpc_check; (repeat kpc_if)
    refine wpAny_bind ?_
    refine wpAny_holding ?_
    (repeat kpc_if); kpt_conv
    refine wpAny_pure ?_
    refine wpAny_pure ?_
    refine KPc.after_add (by kpc_g) (by kpc_text) (by kpc_obj) ?_; intro _ _
    refine KPc.turn ?_; kpc_check; (repeat kpc_if)
    refine wpAny_pure ?_
    refine KPc.after_add (by kpc_g) (by kpc_text) (by kpc_obj) ?_; intro _ _
    refine KPc.turn ?_; kpc_check; (repeat kpc_if)
    refine wpAny_pure ?_
    refine KPc.after_str (by kpc_g) (by kpt_len) (by kpc_obj) ?_; intro _ _
    refine KPc.turn ?_; kpc_check; (repeat kpc_if)
    refine wpAny_pure ?_
    refine KPc.after_add (by kpc_g) (by kpc_text) (by kpc_obj) ?_; intro _ _
    refine KPc.turn ?_; kpc_check; (repeat kpc_if); kpc_close
  case e => rfl
set_option maxRecDepth 100000 in
set_option maxHeartbeats 4000000 in
theorem meets_br {t u : Tok} (z : Str) (hz : z.length ≤ 1000000) : Meets (Builtin.«str.__mod__» ⟨[.str ⟨#[123, 37, 115, 125]⟩ t, .str z u], []⟩) (fun _ R s => ∀ t' k, R (.ok (.ret (.str (Str.ofString "{" ++ z ++ Str.ofString "}") t'))) { s with toks := k }) := by
  apply KPc.meets_of
  intro _ _ _ _ _ _ _
  rw [KPc.entry_is_s]
  unfold Builtin.Str.percentFormat
  refine wpAny_bind (wpAny_isInstance (typeIs_str _ _ _) F.sub_str_tuple ?_)
  refine wpAny_bind (wpAny_of_eq (a := some _) rfl ?_)
  refine wpAny_bind (KPc.wp_fills_str ?_)
  intro _
  kpc_if
  refine wpAny_bind (wpAny_pure ?_)
  refine wpAny_bind ?_
  rw [KPc.range_list]
  refine KPc.start ?_
  intro _ _
  refine KPc.turn ?_; kpc_check; (repeat kpc_if)
  refine wpAny_pure ?_
  refine KPc.after_add0 (by kpc_g) (by kpc_text) (by kpc_obj) ?_; intro _ _
  refine KPc.turn ?_; kpc_check; (repeat kpc_if)
  refine wpAny_pure ?_
  refine KPc.after_str (by kpc_g) (by kpc_len) (by kpc_obj) ?_; intro _ _
  refine KPc.turn ?_; kpc_check; (repeat kpc_if)
  refine wpAny_pure ?_
  refine KPc.after_add (by kpc_g) (by kpc_text) (by kpc_obj) ?_; intro _ _
  refine KPc.turn ?_; kpc_check; (repeat kpc_if); kpc_close
end Mine
end

section
open PySem PySem.W PyProof.Rows PySem.Spec PySem.Calls
namespace Mine

abbrev itObj (f0 : Value) (fl : Bool) (d : Addr) (i n ep : Nat) (ok ov : Value) : Obj :=
  { cls := .type "dict_itemiterator", dict := none, data := .fields #[f0, .bool fl, .ref d, .int i 0, .int n 0, .int ep 0, ok, ov], slots := #[] }
def DictE (h : Heap) (d : Addr) (es : Array DictEntry) (ep : Nat) : Prop := ∃ o, h.get? d = some o ∧ o.cls = .type "dict" ∧ o.data = .dict es ep
theorem DictE.at {h h' : Heap} {d : Addr} {es : Array DictEntry} {ep : Nat} (x : DictE h d es ep) (k : ∀ o, h.get? d = some o → h'.get? d = some o) : DictE h' d es ep := let ⟨o, ho, r⟩ := x; ⟨o, k o ho, r⟩
def F0 (h : Heap) (it : Addr) (f0 : Value) : Prop := f0 = .none ∨ ∃ a oa, f0 = rawInt (a : Nat) ∧ h.get? a = some oa ∧ a ≠ it

section
variable {prog : Program} {w : World} {A : Around} {E : Value → Shared → Prop} {s : Shared} {it d : Addr} {i ep : Nat} {es : Array DictEntry} {f0 ok ov : Value} {fl : Bool} {e : DictEntry}

theorem it_next {Q : Option Value → Shared → Prop} (hit : s.heap.get? it = some (itObj f0 fl d i es.size ep ok ov)) (hf : F0 s.heap it f0) (hd : DictE s.heap d es ep) (hx : es[i]? = some e)
    (hQ : ∀ h' f0' fl' ok' ov', h'.get? it = some (itObj f0' fl' d (i + 1) es.size ep ok' ov') → (f0 = .none ∧ f0' = rawInt (s.heap.objs.size : Nat) ∨ f0 ≠ .none ∧ f0' = f0) → h'.get? s.heap.objs.size = some (tupOf [e.key, e.val] 0) →
      h'.objs.size = s.heap.objs.size + 1 → (∀ b o, b ≠ it → s.heap.get? b = some o → h'.get? b = some o) → Q (some (.ref s.heap.objs.size)) { s with heap := h' }) :
    wpAny (model prog w) A (pyNext (.ref it)) Q E s := by
  obtain ⟨hp, g, dr, tk, os⟩ := s
  obtain ⟨od, hod, hcd, hdd⟩ := id hd
  have hT : Shared.TypeIs ⟨hp, g, dr, tk, os⟩ (.ref it) "dict_itemiterator" := ⟨_, hit, rfl⟩
  unfold pyNext
  refine wpAny_bind (wpAny_attempt (wpAny_callSpecial?_slot (name := Str.ofString "__next__") hT PySem.F.slot_dict_itemiterator_next
    (wpAny_call_entry PySem.F.slot_dict_itemiterator_next hT PySem.F.entry_dict_itemiterator_next ?_ (PySem.F.args_dict_itemiterator_next_1 _))))
  refine wpAny_bind (wpAny_pure ?_)
  refine wpAny_bind ?_
  refine wpAny_bind ?_
  refine wpAny_bind (wpAny_typeNameOfWhole_itemiter hT (wpAny_pure ?_))
  refine wpAny_bind (wpAny_fieldsOf hit rfl ?_)
  have hown : Builtin.Dict_items.ownsTuple "dict_itemiterator" = true := by decide
  simp only [hown, if_true]
  show wpAny _ _ (if (Value.ref d == Value.none) = true then _ else _) _ _ _
  rw [if_neg (show ¬ ((Value.ref d == Value.none) = true) from Bool.false_ne_true)]
  refine wpAny_bind (wpAny_pure ?_)
  refine wpAny_bind (wpAny_dictEntries hod hdd ?_)
  rw [if_neg (by simp)]
  refine wpAny_bind (wpAny_pure ?_)
  refine wpAny_bind (wpAny_dictEpoch hod hdd ?_)
  rw [if_neg (by simp)]
  refine wpAny_pure ?_
  simp only [show ¬ ((i : Int) < 0) from by omega, if_false, Int.toNat_natCast, hx]
  refine wpAny_bind ?_
  refine wpAny_bind (wpAny_typeNameOfWhole_itemiter hT (wpAny_pure ?_))
  refine wpAny_bind (wpAny_isOneOf_itemiter hT ?_)
  show wpAny _ _ (setField (.ref it) 3 (rawInt ((i : Int) + 1)) >>= _) _ _ ⟨hp, g, dr, tk, os⟩
  refine wpAny_bind (wpAny_setField_rec hit (by simp) fun h₁ he₁ hs₁ => ?_)
  replace hs₁ : Heap.SameBut it hp h₁ := hs₁
  replace he₁ : h₁.get? it = some (itObj f0 fl d (i + 1) es.size ep ok ov) := by
    have e : ((i + 1 : Nat) : Int) = (i : Int) + 1 := by omega
    unfold itObj; rw [e]; simpa [rawInt] using he₁
  have hT₁ : Shared.TypeIs ⟨h₁, g, dr, tk, os⟩ (.ref it) "dict_itemiterator" := ⟨_, he₁, rfl⟩
  refine wpAny_bind (wpAny_holding ?_)
  refine wpAny_bind (wpAny_isOneOf_itemiter hT₁ ?_)
  refine wpAny_bind (wpAny_isOneOf_itemiter hT₁ ?_)
  show wpAny _ _ (Builtin.Dict_items.pairFromOwner (.ref it) 6 e.key e.val) _ _ ⟨h₁, g, dr, tk, os⟩
  unfold Builtin.Dict_items.pairFromOwner
  refine wpAny_bind (wpAny_newTuple ?_)
  have he₂ : (h₁.push (tupOf [e.key, e.val] 0)).get? it = some (itObj f0 fl d (i + 1) es.size ep ok ov) := Heap.get?_push_of_some _ he₁
  generalize hh₂ : h₁.push (tupOf [e.key, e.val] 0) = h₂ at he₂
  have hz₁ : h₁.objs.size = hp.objs.size := hs₁.1
  have hil : it < hp.objs.size := Heap.lt_size hit
  have ht₂ : h₂.get? hp.objs.size = some (tupOf [e.key, e.val] 0) := by rw [← hh₂, ← hz₁]; exact Heap.get?_push_size _ rfl
  have hz₂ : h₂.objs.size = hp.objs.size + 1 := by rw [← hh₂, Heap.size_push, hz₁]
  have hk₂ : ∀ b o, b ≠ it → hp.get? b = some o → h₂.get? b = some o := fun b o hb e => by rw [← hh₂]; exact Heap.get?_push_of_some _ (hs₁.extBut b o hb e)
  show wpAny _ _ (Builtin.Dict_items.ownedTupleIsFree (.ref it) >>= _) _ _ ⟨h₂, g, dr, tk, os⟩
  rw [hz₁]
  clear hh₂ he₁ hs₁ hT₁ hz₁ h₁
  refine wpAny_bind ?_
  unfold Builtin.Dict_items.ownedTupleIsFree
  rcases hf with rfl | ⟨a, oa, rfl, ha, hai⟩
  · refine wpAny_bind (wpAny_field he₂ rfl (x := .none) rfl (wpAny_pure ?_))
    simp only [if_true]
    refine wpAny_bind (wpAny_field he₂ rfl (x := ok) rfl ?_)
    refine wpAny_bind (wpAny_field he₂ rfl (x := ov) rfl ?_)
    refine wpAny_bind (wpAny_setField_rec he₂ (by simp) fun h₃ he₃ hs₃ => ?_)
    replace hs₃ : Heap.SameBut it h₂ h₃ := hs₃
    replace he₃ : h₃.get? it = some (itObj .none fl d (i + 1) es.size ep e.key ov) := he₃
    refine wpAny_bind (wpAny_setField_rec he₃ (by simp) fun h₄ he₄ hs₄ => ?_)
    replace hs₄ : Heap.SameBut it h₃ h₄ := hs₄
    replace he₄ : h₄.get? it = some (itObj .none fl d (i + 1) es.size ep e.key e.val) := he₄
    refine wpAny_bind (wpAny_setField_rec he₄ (by simp) fun h₅ he₅ hs₅ => ?_)
    replace hs₅ : Heap.SameBut it h₄ h₅ := hs₅
    replace he₅ : h₅.get? it = some (itObj (rawInt hp.objs.size) fl d (i + 1) es.size ep e.key e.val) := he₅
    refine wpAny_bind (wpAny_setField_rec he₅ (by simp) fun h₆ he₆ hs₆ => ?_)
    replace hs₆ : Heap.SameBut it h₅ h₆ := hs₆
    replace he₆ : h₆.get? it = some (itObj (rawInt hp.objs.size) false d (i + 1) es.size ep e.key e.val) := he₆
    refine wpAny_bind (wpAny_letGo (wpAny_pure (wpAny_pure ⟨_, rfl, wpAny_pure (hQ h₆ _ _ _ _ he₆ (.inl ⟨rfl, rfl⟩) ?_ ?_ ?_)⟩)))
    · exact hs₆.extBut _ _ (Nat.ne_of_gt hil) (hs₅.extBut _ _ (Nat.ne_of_gt hil) (hs₄.extBut _ _ (Nat.ne_of_gt hil) (hs₃.extBut _ _ (Nat.ne_of_gt hil) ht₂)))
    · show h₆.objs.size = hp.objs.size + 1
      rw [hs₆.1, hs₅.1, hs₄.1, hs₃.1, hz₂]
    · exact fun b o hb e => hs₆.extBut b o hb (hs₅.extBut b o hb (hs₄.extBut b o hb (hs₃.extBut b o hb (hk₂ b o hb e))))
  · have ha₂ : h₂.get? a = some oa := hk₂ a oa hai ha
    refine wpAny_bind (wpAny_field he₂ rfl (x := rawInt a) rfl ?_)
    show wpAny _ _ (loadIfAlive ((a : Int).toNat) >>= _) _ _ _
    rw [Int.toNat_natCast]
    refine wpAny_bind (kdx_alive ha₂ ?_)
    simp only [Option.isNone_some, Bool.false_eq_true, if_false]
    refine wpAny_bind (wpAny_field he₂ rfl (x := .bool fl) rfl ?_)
    have fin : ∀ h₃ : Heap, h₃.get? it = some (itObj (rawInt a) true d (i + 1) es.size ep ok ov) → Heap.SameBut it h₂ h₃ → Q (some (.ref hp.objs.size)) ⟨h₃, g, dr, tk, os⟩ := fun h₃ he₃ hs₃ =>
      hQ h₃ _ _ _ _ he₃ (.inr ⟨(fun q => nomatch q), rfl⟩) (hs₃.extBut _ _ (Nat.ne_of_gt hil) ht₂) (by show h₃.objs.size = hp.objs.size + 1; rw [hs₃.1, hz₂]) fun b o hb e => hs₃.extBut b o hb (hk₂ b o hb e)
    cases fl with
    | true =>
      rw [if_neg (show ¬ ((Value.bool true != Value.bool true) = true) from Bool.false_ne_true)]
      refine wpAny_pure ?_
      simp only [Bool.false_eq_true, if_false]
      exact wpAny_pure (wpAny_pure ⟨_, rfl, wpAny_pure (fin h₂ he₂ (Heap.SameBut.refl _ _))⟩)
    | false =>
      rw [if_pos (show (Value.bool false != Value.bool true) = true from rfl)]
      refine wpAny_bind (wpAny_setField_rec he₂ (by simp) fun h₃ he₃ hs₃ => ?_)
      replace hs₃ : Heap.SameBut it h₂ h₃ := hs₃
      replace he₃ : h₃.get? it = some (itObj (rawInt a) true d (i + 1) es.size ep ok ov) := he₃
      refine wpAny_pure ?_
      simp only [Bool.false_eq_true, if_false]
      exact wpAny_pure (wpAny_pure ⟨_, rfl, wpAny_pure (fin h₃ he₃ hs₃)⟩)

theorem it_end {Q : Option Value → Shared → Prop} (hh : A.handled = none) (hit : s.heap.get? it = some (itObj f0 fl d i es.size ep ok ov)) (hd : DictE s.heap d es ep) (hge : es.size ≤ i)
    (hQ : ∀ h', Heap.ExtBut it s.heap h' → Q none { s with heap := h' }) : wpAny (model prog w) A (pyNext (.ref it)) Q E s := by
  obtain ⟨od, hod, hcd, hdd⟩ := id hd
  have hT : s.TypeIs (.ref it) "dict_itemiterator" := ⟨_, hit, rfl⟩
  unfold pyNext
  refine wpAny_bind (wpAny_attempt (wpAny_callSpecial?_slot (name := Str.ofString "__next__") hT PySem.F.slot_dict_itemiterator_next
    (wpAny_call_entry PySem.F.slot_dict_itemiterator_next hT PySem.F.entry_dict_itemiterator_next ?_ (PySem.F.args_dict_itemiterator_next_1 _))))
  refine wpAny_bind (wpAny_pure ?_)
  refine wpAny_bind ?_
  refine wpAny_bind ?_
  refine wpAny_bind (wpAny_typeNameOfWhole_itemiter hT (wpAny_pure ?_))
  refine wpAny_bind (wpAny_fieldsOf hit rfl ?_)
  have hown : Builtin.Dict_items.ownsTuple "dict_itemiterator" = true := by decide
  simp only [hown, if_true]
  show wpAny _ _ (if (Value.ref d == Value.none) = true then _ else _) _ _ s
  rw [if_neg (show ¬ ((Value.ref d == Value.none) = true) from Bool.false_ne_true)]
  refine wpAny_bind (wpAny_pure ?_)
  refine wpAny_bind (wpAny_dictEntries hod hdd ?_)
  rw [if_neg (by simp)]
  refine wpAny_bind (wpAny_pure ?_)
  refine wpAny_bind (wpAny_dictEpoch hod hdd ?_)
  rw [if_neg (by simp)]
  refine wpAny_pure ?_
  simp only [show ¬ ((i : Int) < 0) from by omega, if_false, Int.toNat_natCast, Array.getElem?_eq_none hge]
  refine wpAny_bind ?_
  refine wpAny_bind (wpAny_typeNameOfWhole_itemiter hT (wpAny_pure ?_))
  show wpAny _ _ (setField (.ref it) 2 .none >>= _) _ _ s
  refine wpAny_bind (wpAny_setField hit rfl (by simp) ?_)
  show wpAny _ _ (newExc (.type "StopIteration") [] >>= _) _ _ _
  refine wpAny_bind ?_
  simp only [newExc, newTuple]
  refine wpAny_bind (wpAny_newObj_type ?_ (by size_fits))
  refine wpAny_bind (m := firstArgMember _ _) (wpAny_of_eq (a := Value.none) (by first | rfl | (simp only [firstArgMember]; rfl)) ?_)
  refine wpAny_newObj_type ?_ (by size_fits)
  simp only [raiseNew]
  refine wpAny_bind (wpAny_handled ?_)
  rw [show A.in1.handled = none from hh]
  refine wpAny_bind (wpAny_pure (wpAny_throw ?_))
  refine wpAny_bind (wpAny_isInstance (T := "StopIteration") (b := true) ⟨_, Heap.get?_push_size _ rfl, rfl⟩ isSubtype_stop ?_)
  exact wpAny_pure (hQ _ (((Heap.SameBut.update ..).extBut.push _).push _))
end
end Mine
end

section
open PySem PySem.W PyProof.Rows PySem.Spec PySem.Calls
namespace Mine

abbrev dictObj (es : Array DictEntry) (ep : Nat) : Obj := { cls := .type "dict", data := .dict es ep }

section
variable {prog : Program} {w : World} {A : Around} {E : Value → Shared → Prop} {s : Shared} {d : Addr} {es : Array DictEntry} {ep : Nat}

theorem my_getMethod {name : Str} {id : String} {pl : Sem Bool} {Q : Value × List Value → Shared → Prop} (slot : Slot "dict" name id) (hty : typeOf (.builtin id) = pure (.type "method_descriptor"))
    (ho : s.heap.get? d = some (dictObj es ep)) (h : Q (.builtin id, [.ref d]) s) : wpAny (model prog w) A (getMethod (.ref d) name pl) Q E s :=
  getMethod_builtin ⟨_, ho, rfl⟩ PySem.F.plainAttrs_dict slot hty (fun b e => by injection e with e; subst e; exact ⟨_, ho, rfl⟩) h

theorem my_items {Q : Value → Shared → Prop} (hd : (d == sysModules) = false) (ho : s.heap.get? d = some (dictObj es ep))
    (h : Q (.ref s.heap.objs.size) { s with heap := s.heap.push { cls := .type "dict_items", data := .fields #[.ref d] } }) : wpAny (model prog w) A (call (.builtin "dict.items") [.ref d]) Q E s := by
  have hT : s.TypeIs (.ref d) "dict" := ⟨_, ho, rfl⟩
  refine wpAny_call (codeAny_call_builtin PySem.F.slot_dict_items.plain PySem.F.entry_dict_items (PySem.F.slot_dict_items.check _ _ _ _ _ _ _ _ hT (PySem.F.args_dict_items_1 _) ?_))
  unfold Builtin.«dict.items»
  refine wpAny_bind ?_
  unfold Builtin.Dict.noArgs
  refine wpAny_bind (wpAny_notOrdered_dict hT ?_)
  show wpAny _ _ (pure d) _ _ s
  refine wpAny_pure ?_
  show wpAny _ _ (Builtin.Dict.showsAll d >>= _) _ _ s
  unfold Builtin.Dict.showsAll
  rw [if_neg (by rw [hd]; exact Bool.false_ne_true)]
  refine wpAny_bind (wpAny_pure ?_)
  exact wpAny_bind (wpAny_newObj_type (wpAny_pure h))

theorem my_values {Q : Value → Shared → Prop} (hd : (d == sysModules) = false) (ho : s.heap.get? d = some (dictObj es ep))
    (h : Q (.ref s.heap.objs.size) { s with heap := s.heap.push { cls := .type "dict_values", data := .fields #[.ref d] } }) : wpAny (model prog w) A (call (.builtin "dict.values") [.ref d]) Q E s := by
  have hT : s.TypeIs (.ref d) "dict" := ⟨_, ho, rfl⟩
  refine wpAny_call (codeAny_call_builtin PySem.F.slot_dict_values.plain PySem.F.entry_dict_values (PySem.F.slot_dict_values.check _ _ _ _ _ _ _ _ hT (PySem.F.args_dict_values_1 _) ?_))
  refine wpAny_bind ?_
  unfold Builtin.Dict.noArgs
  refine wpAny_bind (wpAny_notOrdered_dict hT ?_)
  show wpAny _ _ (pure d) _ _ s
  refine wpAny_pure ?_
  show wpAny _ _ (Builtin.Dict.showsAll d >>= _) _ _ s
  unfold Builtin.Dict.showsAll
  rw [if_neg (by rw [hd]; exact Bool.false_ne_true)]
  refine wpAny_bind (wpAny_pure ?_)
  exact wpAny_bind (wpAny_newObj_type (wpAny_pure h))

theorem my_iter_items {v : Addr} {Q : Value → Shared → Prop} (hv : s.heap.IsItemsView v d) (ho : DictE s.heap d es ep)
    (hQ : Q (.ref s.heap.objs.size) { s with heap := s.heap.push (itObj .none false d 0 es.size ep .none .none) }) : wpAny (model prog w) A (pyIter (.ref v)) Q E s := by
  obtain ⟨ov, hov, hcv, hdv⟩ := id hv
  obtain ⟨o, ho, hc, hdat⟩ := id ho
  refine wpAny_pyIter_slot hv.typeIs PySem.F.slot_dict_items_iter (wpAny_call_entry PySem.F.slot_dict_items_iter hv.typeIs PySem.F.entry_dict_items_iter ?_ (PySem.F.args_dict_items_iter_1 _))
  unfold Builtin.«dict_items.__iter__»
  refine wpAny_bind (wpAny_pure ?_)
  refine wpAny_bind ?_
  unfold Builtin.Dict_items.dictOf
  refine wpAny_bind (wpAny_field hov hdv (x := .ref d) rfl (wpAny_pure ?_))
  refine wpAny_bind ?_
  unfold Builtin.Dict_items.newIterator
  refine wpAny_bind (wpAny_dictEntries ho hdat ?_)
  refine wpAny_bind (wpAny_dictEpoch ho hdat ?_)
  have hown : Builtin.Dict_items.ownsTuple "dict_itemiterator" = true := by decide
  simp only [hown, if_true]
  refine wpAny_newObj_type (wpAny_pure ⟨_, rfl, "dict_itemiterator", _, ⟨_, Heap.get?_push_size _ rfl, rfl⟩, PySem.F.slot_dict_itemiterator_next.lookup, ?_⟩)
    (by simp only [sizeOk, Builtin.Dict_items.ownedTupleFields, List.size_toArray, List.length_append, List.length_cons, List.length_nil, sizeLine_eq]; omega)
  simp [rawInt, Builtin.Dict_items.ownedTupleFields]
  exact hQ

theorem my_letGo {elts : List Expr} {x1} {pos : Pos} {it a : Addr} {i n : Nat} {fl : Bool} {ok ov : Value} {Q : Unit → Shared → Prop} (he : s.heap.get? it = some (itObj (rawInt (a : Nat)) fl d i n ep ok ov))
    (hQ : ∀ h', h'.get? it = some (itObj .none fl d i n ep ok ov) → Heap.SameBut it s.heap h' → Q () { s with heap := h' }) :
    wpAny (model prog w) A (letOwnedTupleGo (.Tuple elts x1 pos) (.ref it) (.ref a)) Q E s := by
  unfold letOwnedTupleGo
  refine wpAny_bind (wpAny_load he ?_)
  show wpAny _ _ (if (["enumerate", "zip", "dict_itemiterator", "dict_reverseitemiterator", "odict_iterator", "itertools.zip_longest", "itertools.pairwise"].contains "dict_itemiterator" &&
      (#[rawInt a, .bool fl, .ref d, .int i 0, .int n 0, .int ep 0, ok, ov] : Array Value)[0]? == some (rawInt a)) = true then _ else _) Q E s
  rw [if_pos (by simp)]
  refine wpAny_bind (wpAny_rule ?_)
  show wpAny _ _ (setField (.ref it) 0 .none) Q E s
  exact wpAny_setField_rec he (by simp) fun h' he' hs' => hQ h' he' hs'
end

section
variable {prog : Program} {w : World} {A : Around} {s : Shared} {env : Env}

theorem loop_items {R : Result → Shared → Prop} {xk xv : Str} {pk pv pt : Pos} {x1} {body : List Stmt} {it d : Addr} {es : Array DictEntry} {ep : Nat} {m : Str → Option Value} {news : List (Addr × Obj)} {g : Heap} {fl : Bool} {ok ov : Value}
    (hh : A.handled = none) (hxk : env.kindOf xk = some .local) (hxv : env.kindOf xv = some .local)
    (hp : (env.scope.kind == .class || (env.scope.kind == .module && env.locals != env.globals)) = false)
    (hit : s.heap.get? it = some (itObj .none fl d 0 es.size ep ok ov)) (hd : DictE g d es ep) (F : Fr g env.locals s.heap m) (N : News g env.locals s.heap news)
    (hiL : it ≠ env.locals) (hig : g.get? it = none) (hin : ∀ p ∈ news, p.1 ≠ it)
    (J : Nat → (Str → Option Value) → List (Addr × Obj) → Prop) (h0 : J 0 m news)
    (step : ∀ i e m₁ news₁ h tk ito, es[i]? = some e → J i m₁ news₁ → (∀ p ∈ news₁, p.1 ≠ it) → Fr g env.locals h (fun y => if y = xv then some e.val else if y = xk then some e.key else m₁ y) → News g env.locals h ((it, ito) :: news₁) →
      wpAny (model prog w) A (execs body env) (fun f s₂ => f = .next ∧ ∃ h' tk' m₂ news₂, s₂ = { s with heap := h', toks := tk' } ∧ Fr g env.locals h' m₂ ∧ News g env.locals h' ((it, ito) :: news₂) ∧ (∀ p ∈ news₂, p.1 ≠ it) ∧ J (i + 1) m₂ news₂)
        (fun _ _ => False) { s with heap := h, toks := tk })
    (hR : ∀ h' tk m' news', Fr g env.locals h' m' → News g env.locals h' news' → J es.size m' news' → R (.ok .next) { s with heap := h', toks := tk }) :
    codeAny (model prog w) A (.forLoop (.Tuple [.Name xk pk, .Name xv pv] x1 pt) (.ref it) body [] env) R s := by
  refine codeAny_forLoop_any
    (fun n s' => ∃ h' tk m' news' i fl ok ov, s' = { s with heap := h', toks := tk } ∧ h'.get? it = some (itObj .none fl d i es.size ep ok ov) ∧ Fr g env.locals h' m' ∧ News g env.locals h' news' ∧ (∀ p ∈ news', p.1 ≠ it) ∧ J i m' news' ∧ i ≤ es.size ∧
      n = es.size + 1 - i) ?_ (es.size + 1)
    ⟨s.heap, s.toks, m, news, 0, fl, ok, ov, rfl, hit, F, N, hin, h0, Nat.zero_le _, rfl⟩
  rintro n s' ⟨H, tk, m', news', i, fl, ok, ov, rfl, hit', F', N', hin', hJ, hi, rfl⟩
  have hdH : DictE H d es ep := hd.at fun o e => F'.keep d o e
  by_cases hlt : i < es.size
  · have hv : es[i]? = some es[i] := by simp [hlt]
    generalize es[i] = e at hv
    have hiH : it < H.objs.size := Heap.lt_size hit'
    have hLH : env.locals < H.objs.size := F'.ns.lt
    refine it_next hit' (.inl rfl) hdH hv fun h₁ f0' fl' ok' ov' he₁ hf0 ht₁ hz₁ hk₁ => ?_
    have hf : f0' = rawInt (H.objs.size : Nat) := by
      rcases hf0 with ⟨_, e⟩ | ⟨e, _⟩
      · exact e
      · exact absurd rfl e
    subst hf
    refine my_letGo he₁ fun h₂ he₂ hs₂ => ?_
    replace hs₂ : Heap.SameBut it h₁ h₂ := hs₂
    have ht₂ : h₂.IsTuple H.objs.size #[e.key, e.val] := ⟨_, (hs₂.2 _ (Nat.ne_of_gt hiH)).trans ht₁, rfl, _, rfl⟩
    have hz₂ : h₂.objs.size = H.objs.size + 1 := hs₂.1.trans hz₁
    have k₂ : ∀ b o, b ≠ it → H.get? b = some o → h₂.get? b = some o := fun b o hb x => (hs₂.2 b hb).trans (hk₁ b o hb x)
    refine wpAny_assign_Tuple hh ht₂ rfl rfl fun h₃ hx₃ => ?_
    replace hx₃ : Heap.ExtBut h₂.objs.size h₂ h₃ := hx₃
    have old₃ : ∀ b o, b < H.objs.size → h₂.get? b = some o → h₃.get? b = some o := fun b o hb x => hx₃ b o (by rw [hz₂]; exact Nat.ne_of_lt (Nat.lt_succ_of_lt hb)) x
    have k₃ : ∀ b o, b ≠ it → H.get? b = some o → h₃.get? b = some o := fun b o hb x => old₃ b o (Heap.lt_size x) (k₂ b o hb x)
    have hit₃ : h₃.get? it = some (itObj .none fl' d (i + 1) es.size ep ok' ov') := old₃ it _ hiH he₂
    have F₃ : Fr g env.locals h₃ m' := ⟨F'.ns.at' fun o x => k₃ _ o (Ne.symm hiL) x, fun b o x => k₃ b o (fun q => by rw [q, hig] at x; cases x) (F'.keep b o x), F'.above⟩
    have N₃ : News g env.locals h₃ ((it, itObj .none fl' d (i + 1) es.size ep ok' ov') :: news') := by
      intro p hp
      rcases List.mem_cons.mp hp with rfl | hp
      · exact ⟨hit₃, hiL, hig⟩
      · exact ⟨k₃ _ _ (hin' p hp) (N' p hp).1, (N' p hp).2⟩
    show wpAny _ _ (do holding [e.val] (assign (.Name xk pk) env e.key); do holding [] (assign (.Name xv pv) env e.val); pure ()) _ _ _
    refine wpAny_bind (wpAny_holding (wpAny_assign_Name (wpAny_storeName_local hxk F₃.ns (fun h₄ hn₄ hs₄ => ?_) hp)))
    have F₄ := F₃.set hn₄ hs₄
    have N₄ := N₃.set hs₄
    refine wpAny_bind (wpAny_holding (wpAny_assign_Name (wpAny_storeName_local hxv F₄.ns (fun h₅ hn₅ hs₅ => wpAny_pure ?_) hp)))
    have F₅ := F₄.set hn₅ hs₅
    have N₅ := N₄.set hs₅
    refine wpAny_mono (step i e m' news' h₅ _ _ hv hJ hin' F₅ N₅) (fun f s₃ h₆ => ?_) fun _ _ x => x.elim
    obtain ⟨rfl, h₆, tk₆, m₂, news₂, rfl, F₆, N₆, hin₆, hJ₆⟩ := h₆
    exact ⟨es.size + 1 - (i + 1), by omega, h₆, tk₆, m₂, news₂, i + 1, fl', ok', ov', rfl, (N₆ _ (.head _)).1, F₆, fun p hp => N₆ p (.tail _ hp), hin₆, hJ₆, hlt, rfl⟩
  · have hsz : i = es.size := by omega
    refine it_end hh hit' hdH (by omega) fun h₁ he₁ => wpAny_execs_nil ?_
    replace he₁ : Heap.ExtBut it H h₁ := he₁
    refine hR h₁ tk m' news' ⟨F'.ns.at' fun o x => he₁ _ o (Ne.symm hiL) x, fun b o x => he₁ b o (fun q => by rw [q, hig] at x; cases x) (F'.keep b o x), F'.above⟩ (fun p hp => ⟨he₁ _ _ (hin' p hp) (N' p hp).1, (N' p hp).2⟩) (hsz ▸ hJ)
end
end Mine
end

section
open PySem PySem.W PyProof.Rows PySem.Spec PySem.Calls
namespace Mine

abbrev Mx := Str ⊕ Int
def mixIs : Mx → Value → Bool
  | .inl x, v => Value.isStrOf x v
  | .inr i, v => Value.isInt i v

theorem mixIs_shape {k : Mx} {v : Value} (h : mixIs k v = true) : (∃ x t, k = .inl x ∧ v = .str x t) ∨ ∃ i t, k = .inr i ∧ v = .int i t := by
  cases k with
  | inl x => obtain ⟨t, rfl⟩ := Value.isStrOf_shape h; exact .inl ⟨x, t, rfl, rfl⟩
  | inr i => obtain ⟨t, rfl⟩ := Value.isInt_shape h; exact .inr ⟨i, t, rfl, rfl⟩

theorem mix_eqBool {prog : Program} {w : World} {A : Around} {E : Value → Shared → Prop} {s : Shared} {a b : Mx} {u v : Value} {Q : Bool → Shared → Prop} (hu : mixIs a u = true) (hv : mixIs b v = true) (h : Q (decide (a = b)) s) :
    wpAny (model prog w) A (PySem.eqBool u v) Q E s := by
  rcases mixIs_shape hu with ⟨x, t, rfl, rfl⟩ | ⟨x, t, rfl, rfl⟩ <;> rcases mixIs_shape hv with ⟨y, q, rfl, rfl⟩ | ⟨y, q, rfl, rfl⟩
  · refine wpAny_eqBool_str ?_
    have e : decide ((Sum.inl x : Mx) = .inl y) = decide (x = y) := by
      by_cases e : x = y
      · simp [e]
      · have : ¬ ((Sum.inl x : Mx) = .inl y) := fun q => e (Sum.inl.inj q)
        simp [e]
    rw [e] at h; exact h
  · refine SeqAt.EqAt.str_int x t y q prog w E Q ?_
    have e : decide ((Sum.inl x : Mx) = .inr y) = false := decide_eq_false (fun q => nomatch q)
    rw [e] at h; exact h
  · refine SeqAt.EqAt.int_str x t y q prog w E Q ?_
    have e : decide ((Sum.inr x : Mx) = .inl y) = false := decide_eq_false (fun q => nomatch q)
    rw [e] at h; exact h
  · refine wpAny_eqBool_int ?_
    have e : decide ((Sum.inr x : Mx) = .inr y) = decide (x = y) := by
      by_cases e : x = y
      · simp [e]
      · have : ¬ ((Sum.inr x : Mx) = .inr y) := fun q => e (Sum.inr.inj q)
        simp [e]
    rw [e] at h; exact h

def mixK (prog : Program) (w : World) : KeyKind prog w Mx where
  is := mixIs
  hash := fun k => match k with | .inl x => hashStr w x | .inr i => hashInt i
  inj := fun v a b ha hb => by
    rcases mixIs_shape ha with ⟨x, t, rfl, rfl⟩ | ⟨x, t, rfl, rfl⟩ <;> rcases mixIs_shape hb with ⟨y, u, rfl, e⟩ | ⟨y, u, rfl, e⟩ <;> cases e <;> rfl
  byValue := fun k v h => by rcases mixIs_shape h with ⟨x, t, rfl, rfl⟩ | ⟨x, t, rfl, rfl⟩ <;> rfl
  pyHash := fun hv h => by
    rcases mixIs_shape hv with ⟨x, t, rfl, rfl⟩ | ⟨x, t, rfl, rfl⟩
    · exact wpAny_pyHash_str h
    · exact wpAny_pyHash_int h
  eqBool := fun hu hv h => mix_eqBool hu hv h
  «strs» := fun k x t v h => by
    rcases mixIs_shape h with ⟨y, u, rfl, e⟩ | ⟨y, u, rfl, e⟩
    · injection e with e1
      subst e1
      cases v <;> rfl
    · cases e

def enc (k : Key) : List Mx := [.inl (S k.1), .inr k.2.1, .inl (S k.2.2)]
theorem enc_inj {a b : Key} (h : enc a = enc b) : a = b := by
  obtain ⟨f, l, n⟩ := a
  obtain ⟨f', l', n'⟩ := b
  simp only [enc, List.cons.injEq, Sum.inl.injEq, Sum.inr.injEq, and_true] at h
  rw [S_inj h.1, h.2.1, S_inj h.2.2]

abbrev Rw := Key × Int × Addr × Tok
def xsOf (r : List Rw) : List (List Mx × Addr × Value) := r.map fun x => (enc x.1, x.2.2.1, .int x.2.1 x.2.2.2)
def tabOf (r : List Rw) : Tab := r.map fun x => (x.1, x.2.1)
def ents (prog : Program) (w : World) (r : List Rw) : Array DictEntry := ((xsOf r).map (entryOfKey (tupleKind (mixK prog w)))).toArray

theorem keys_tabOf (r : List Rw) : (tabOf r).map (·.1) = r.map (·.1) := by simp [tabOf]
theorem keys_xsOf (r : List Rw) : (xsOf r).map (·.1) = (r.map (·.1)).map enc := by simp [xsOf]
theorem nodup_xs {r : List Rw} (h : (r.map (·.1)).Nodup) : ((xsOf r).map (·.1)).Nodup := by
  rw [keys_xsOf]
  exact List.Pairwise.map enc (fun a b hne e => hne (enc_inj e)) h

structure TabAt (prog : Program) (w : World) (W : Know) (t : Tab) (d : Addr) : Prop where
  lo : (d == sysModules) = false
  rep : ∃ r ep, tabOf r = t ∧ W d (dictObj (ents prog w r) ep) ∧ (r.map (·.1)).Nodup ∧ ∀ x ∈ r, KeyAt W x.1 x.2.2.1

theorem KeyAt.mono {W W' : Know} {k : Key} {a : Addr} (x : KeyAt W k a) (h : ∀ a o, W a o → W' a o) : KeyAt W' k a := let ⟨t1, t2, t3, n, q⟩ := x; ⟨t1, t2, t3, n, h _ _ q⟩
theorem TabAt.mono {prog : Program} {w : World} {W W' : Know} {t : Tab} {d : Addr} (x : TabAt prog w W t d) (h : ∀ a o, W a o → W' a o) : TabAt prog w W' t d :=
  ⟨x.lo, let ⟨r, ep, e1, e2, e3, e4⟩ := x.rep; ⟨r, ep, e1, h _ _ e2, e3, fun y hy => (e4 y hy).mono h⟩⟩

theorem KeyAt.tup {prog : Program} {w : World} {W : Know} {k : Key} {a : Addr} {h : Heap} (x : KeyAt W k a) (hW : ∀ a o, W a o → h.get? a = some o) : IsTupleKey (mixK prog w) h (enc k) a := by
  obtain ⟨t1, t2, t3, n, q⟩ := x
  refine ⟨_, _, n, hW _ _ q, rfl, rfl, ?_⟩
  refine .cons ?_ (.cons ?_ (.cons ?_ .nil))
  · show Value.isStrOf (S k.1) (.str (S k.1) t1) = true
    simp [Value.isStrOf]
  · show Value.isInt k.2.1 (.int k.2.1 t2) = true
    simp [Value.isInt]
  · show Value.isStrOf (S k.2.2) (.str (S k.2.2) t3) = true
    simp [Value.isStrOf]

theorem dictOfH_of {prog : Program} {w : World} {h : Heap} {d : Addr} {r : List Rw} {ep : Nat} (ho : h.get? d = some (dictObj (ents prog w r) ep)) (hn : (r.map (·.1)).Nodup) (hk : ∀ x ∈ r, IsTupleKey (mixK prog w) h (enc x.1) x.2.2.1) :
    h.DictOfH (tupleKind (mixK prog w)) d (xsOf r) := by
  refine ⟨_, _, ep, ho, ⟨rfl, rfl, rfl⟩, rfl, rfl, fun x hx => ?_, nodup_xs hn⟩
  obtain ⟨y, hy, rfl⟩ := List.mem_map.mp hx
  exact hk y hy
theorem obj_of_dictOfH {prog : Program} {w : World} {h : Heap} {d : Addr} {r : List Rw} (x : h.DictOfH (tupleKind (mixK prog w)) d (xsOf r)) : ∃ ep, h.get? d = some (dictObj (ents prog w r) ep) := by
  obtain ⟨⟨c, dd, da, sl⟩, es, ep, ho, ⟨e1, e2, e3⟩, hd, he, _, _⟩ := x
  dsimp only at e1 e2 e3 hd
  subst e1 e2 e3 hd
  have : es = ents prog w r := by
    unfold ents
    rw [← he]
  subst this
  exact ⟨ep, ho⟩

theorem nodup_key {α β : Type} : ∀ {l : List (α × β)}, (l.map (·.1)).Nodup → ∀ {x y : α × β}, x ∈ l → y ∈ l → x.1 = y.1 → x = y
  | [], _, _, _, hx, _, _ => nomatch hx
  | z :: l, hn, x, y, hx, hy, e => by
    simp only [List.map_cons, List.nodup_cons] at hn
    rcases List.mem_cons.mp hx with rfl | hx'
    · rcases List.mem_cons.mp hy with rfl | hy'
      · rfl
      · exact absurd (List.mem_map.mpr ⟨y, hy', e.symm⟩) hn.1
    · rcases List.mem_cons.mp hy with rfl | hy'
      · exact absurd (List.mem_map.mpr ⟨x, hx', e⟩) hn.1
      · exact nodup_key hn.2 hx' hy' e
-- finding and storing
theorem atKey_none {r : List Rw} {k : Key} (h : k ∉ r.map (·.1)) : atKey (xsOf r) (enc k) = none := by
  unfold atKey xsOf
  rw [List.find?_map, Option.map_map, Option.map_eq_none_iff, List.find?_eq_none]
  intro x hx e
  have e' : enc x.1 = enc k := by simpa using e
  exact h (List.mem_map.mpr ⟨x, hx, enc_inj e'⟩)
theorem atKey_some {r : List Rw} {x : Rw} (hn : (r.map (·.1)).Nodup) (h : x ∈ r) : atKey (xsOf r) (enc x.1) = some (x.2.2.1, .int x.2.1 x.2.2.2) := by
  have hn' := nodup_xs hn
  have hm : (enc x.1, x.2.2.1, Value.int x.2.1 x.2.2.2) ∈ xsOf r := List.mem_map.mpr ⟨x, h, rfl⟩
  obtain ⟨i, hi⟩ := List.mem_iff_getElem?.mp hm
  exact atKey_of_get hn' hi

def put (r : List Rw) (k : Key) (a : Addr) (v : Int) (tk : Tok) : List Rw := if k ∈ r.map (·.1) then r.map (fun x => if x.1 = k then (x.1, v, x.2.2.1, tk) else x) else r ++ [(k, v, a, tk)]
theorem stored_xs {r : List Rw} (hn : (r.map (·.1)).Nodup) (k : Key) (a : Addr) (v : Int) (tk : Tok) : storedH (xsOf r) (enc k) a (.int v tk) = xsOf (put r k a v tk) := by
  unfold put
  by_cases hk : k ∈ r.map (·.1)
  · obtain ⟨x, hx, rfl⟩ := List.mem_map.mp hk
    rw [if_pos hk, storedH_old (atKey_some hn hx)]
    unfold xsOf
    rw [List.map_map, List.map_map]
    refine List.map_congr_left fun y _ => ?_
    simp only [Function.comp_apply, putAt]
    by_cases e : y.1 = x.1
    · simp [e]
    · have : ¬ enc y.1 = enc x.1 := fun q => e (enc_inj q)
      simp [e, this]
  · rw [if_neg hk, storedH_new (atKey_none hk)]
    simp [xsOf]
theorem keys_put (r : List Rw) (k : Key) (a : Addr) (v : Int) (tk : Tok) : (put r k a v tk).map (·.1) = if k ∈ r.map (·.1) then r.map (·.1) else r.map (·.1) ++ [k] := by
  unfold put
  split
  · rw [List.map_map]; exact List.map_congr_left fun y _ => by simp only [Function.comp_apply]; split <;> rfl
  · simp
theorem nodup_put {r : List Rw} (hn : (r.map (·.1)).Nodup) (k : Key) (a : Addr) (v : Int) (tk : Tok) : ((put r k a v tk).map (·.1)).Nodup := by
  rw [keys_put]
  split
  · exact hn
  · rename_i hk
    rw [List.nodup_append]
    refine ⟨hn, by simp, ?_⟩
    intro a ha b hb e
    rw [List.mem_singleton] at hb
    exact hk (hb ▸ e ▸ ha)
theorem mem_put {r : List Rw} {k : Key} {a : Addr} {v : Int} {tk : Tok} {x : Rw} (h : x ∈ put r k a v tk) : (∃ y ∈ r, y.1 = x.1 ∧ y.2.2.1 = x.2.2.1) ∨ (x.1 = k ∧ x.2.2.1 = a) := by
  unfold put at h
  split at h
  · obtain ⟨y, hy, rfl⟩ := List.mem_map.mp h
    refine .inl ⟨y, hy, ?_⟩
    split <;> exact ⟨rfl, rfl⟩
  · rcases List.mem_append.mp h with h | h
    · exact .inl ⟨x, h, rfl, rfl⟩
    · rw [List.mem_singleton] at h; subst h; exact .inr ⟨rfl, rfl⟩
theorem tabOf_put_new {r : List Rw} {k : Key} (h : k ∉ r.map (·.1)) (a : Addr) (v : Int) (tk : Tok) : tabOf (put r k a v tk) = addTo (tabOf r) k v := by
  unfold put addTo
  rw [if_neg h, keys_tabOf, if_neg h]
  simp [tabOf]
theorem tabOf_put_old {r : List Rw} {x : Rw} (hn : (r.map (·.1)).Nodup) (h : x ∈ r) (a : Addr) (v : Int) (tk : Tok) : tabOf (put r x.1 a (x.2.1 + v) tk) = addTo (tabOf r) x.1 v := by
  have hk : x.1 ∈ r.map (·.1) := List.mem_map.mpr ⟨x, h, rfl⟩
  unfold put addTo
  rw [if_pos hk, keys_tabOf, if_pos hk]
  unfold tabOf
  rw [List.map_map, List.map_map]
  refine List.map_congr_left fun y hy => ?_
  simp only [Function.comp_apply, bump]
  by_cases e : y.1 = x.1
  · have : y = x := nodup_key hn hy h e
    subst this
    simp
  · simp [e]

theorem ents_size (prog : Program) (w : World) (r : List Rw) : (ents prog w r).size = r.length := by simp [ents, xsOf]
theorem ents_get {prog : Program} {w : World} {r : List Rw} {i : Nat} {e : DictEntry} (h : (ents prog w r)[i]? = some e) : ∃ x, r[i]? = some x ∧ e.key = .ref x.2.2.1 ∧ e.val = .int x.2.1 x.2.2.2 := by
  unfold ents xsOf at h
  rw [List.getElem?_toArray, List.getElem?_map, List.getElem?_map] at h
  cases hx : r[i]? with
  | none => rw [hx] at h; cases h
  | some x =>
    rw [hx] at h
    have := Option.some.inj h
    subst this
    exact ⟨x, rfl, rfl, rfl⟩
end Mine
end

section
open PySem PySem.W PyProof.Rows PySem.Spec PySem.Calls
namespace Mine

abbrev viewObj (d : Addr) : Obj := { cls := .type "dict_items", data := .fields #[.ref d] }
abbrev valsObj (d : Addr) : Obj := { cls := .type "dict_values", data := .fields #[.ref d] }

section
variable {prog : Program} {w : World} {A : Around} {E : Value → Shared → Prop} {s : Shared} {d : Addr} {es : Array DictEntry} {ep : Nat} {g : Heap} {L : Addr} {m : Str → Option Value} {news : List (Addr × Obj)}

theorem my_itemsN {Q : Value → Shared → Prop} (F : Fr g L s.heap m) (N : News g L s.heap news) (hd : (d == sysModules) = false) (ho : s.heap.get? d = some (dictObj es ep))
    (h : ∀ v h', Fr g L h' m → News g L h' ((v, viewObj d) :: news) → (∀ p ∈ news, p.1 < v) → Q (.ref v) { s with heap := h' }) : wpAny (model prog w) A (call (.builtin "dict.items") [.ref d]) Q E s :=
  my_items hd ho (h _ _ (F.push _) (N.push F _) fun p hp => Heap.lt_size (N p hp).1)
theorem my_valuesN {Q : Value → Shared → Prop} (F : Fr g L s.heap m) (N : News g L s.heap news) (hd : (d == sysModules) = false) (ho : s.heap.get? d = some (dictObj es ep))
    (h : ∀ v h', Fr g L h' m → News g L h' ((v, valsObj d) :: news) → (∀ p ∈ news, p.1 < v) → Q (.ref v) { s with heap := h' }) : wpAny (model prog w) A (call (.builtin "dict.values") [.ref d]) Q E s :=
  my_values hd ho (h _ _ (F.push _) (N.push F _) fun p hp => Heap.lt_size (N p hp).1)
end

section
variable {prog : Program} {w : World} {A : Around} {E : Value → Shared → Prop} {s : Shared} {env : Env}
def ItEnd (g : Heap) (L : Addr) (m : Str → Option Value) (it : Addr) (ito : Obj) (J : List (Addr × Obj) → Prop) (s₁ : Shared) (f : Flow) (s₂ : Shared) : Prop :=
  f = .next ∧ ∃ h' tk' news₂, s₂ = { s₁ with heap := h', toks := tk' } ∧ Fr g L h' m ∧ News g L h' ((it, ito) :: news₂) ∧ (∀ p ∈ news₂, p.1 ≠ it) ∧ J news₂
theorem ItEnd.intro {g : Heap} {L : Addr} {m : Str → Option Value} {it : Addr} {ito : Obj} {J : List (Addr × Obj) → Prop} {s₁ : Shared} {h' : Heap} {tk' : Nat} {news₂ : List (Addr × Obj)} (F : Fr g L h' m) (N : News g L h' ((it, ito) :: news₂))
    (hi : ∀ p ∈ news₂, p.1 ≠ it) (hJ : J news₂) : ItEnd g L m it ito J s₁ .next { s₁ with heap := h', toks := tk' } := ⟨rfl, h', tk', news₂, rfl, F, N, hi, hJ⟩

theorem iter_items {R : Result → Shared → Prop} {xk xv : Str} {pk pv pt : Pos} {x1} {body : List Stmt} {v d : Addr} {es : Array DictEntry} {ep : Nat} {m : Str → Option Value} {news : List (Addr × Obj)} {g : Heap}
    (hh : A.handled = none) (hxk : env.kindOf xk = some .local) (hxv : env.kindOf xv = some .local)
    (hp : (env.scope.kind == .class || (env.scope.kind == .module && env.locals != env.globals)) = false)
    (hv : s.heap.get? v = some (viewObj d)) (hd : DictE g d es ep) (F : Fr g env.locals s.heap m) (N : News g env.locals s.heap news)
    (J : Nat → List (Addr × Obj) → Prop) (h0 : J 0 news)
    (step : ∀ i e news₁ h tk it ito, es[i]? = some e → J i news₁ → (∀ p ∈ news₁, p.1 ≠ it) → Fr g env.locals h (fun y => if y = xv then some e.val else if y = xk then some e.key else m y) → News g env.locals h ((it, ito) :: news₁) →
      wpAny (model prog w) A (execs body env) (ItEnd g env.locals (fun y => if y = xv then some e.val else if y = xk then some e.key else m y) it ito (J (i + 1)) { s with heap := h, toks := tk }) (fun _ _ => False) { s with heap := h, toks := tk })
    (hR : ∀ u1 u2 h' tk news', Fr g env.locals h' (fun y => if y = xv then u1 else if y = xk then u2 else m y) → News g env.locals h' news' → J es.size news' → R (.ok .next) { s with heap := h', toks := tk }) :
    wpAny (model prog w) A (pyIter (.ref v)) (fun it s₂ => codeAny (model prog w) A (.forLoop (.Tuple [.Name xk pk, .Name xv pv] x1 pt) it body [] env) R s₂) E s := by
  refine my_iter_items ⟨_, hv, rfl, rfl⟩ (hd.at fun o e => F.keep d o e) ?_
  have hLs : env.locals < s.heap.objs.size := F.ns.lt
  refine loop_items (g := g) (m := m) (news := news) hh hxk hxv hp (Heap.get?_push_size _ rfl) hd (F.push _) (fun p hp => ⟨Heap.get?_push_of_some _ (N p hp).1, (N p hp).2⟩) (Nat.ne_of_gt hLs) (next_is_new F) (fun p hp => Nat.ne_of_lt (Heap.lt_size (N p hp).1))
    (fun i m₁ news₁ => (∃ u1 u2, m₁ = fun y => if y = xv then u1 else if y = xk then u2 else m y) ∧ J i news₁) ⟨⟨m xv, m xk, ?_⟩, h0⟩ ?_ ?_
  · funext y
    by_cases e1 : y = xv
    · simp [e1]
    · by_cases e2 : y = xk
      · simp only [e2, if_true]; split
        · rename_i q; rw [q]
        · rfl
      · simp [e1, e2]
  · rintro i e m₁ news₁ h tk ito he ⟨⟨u1, u2, rfl⟩, hJ⟩ hin F₁ N₁
    have em : (fun y => if y = xv then some e.val else if y = xk then some e.key else if y = xv then u1 else if y = xk then u2 else m y) = fun y => if y = xv then some e.val else if y = xk then some e.key else m y := by
      funext y
      by_cases e1 : y = xv
      · simp [e1]
      · by_cases e2 : y = xk
        · simp [e2]
        · simp [e1, e2]
    rw [em] at F₁
    refine wpAny_mono (step i e news₁ h tk _ ito he hJ hin F₁ N₁) (fun f s₂ q => ?_) fun _ _ x => x
    obtain ⟨rfl, h', tk', news₂, rfl, F₂, N₂, hin₂, hJ₂⟩ := q
    exact ⟨rfl, h', tk', _, news₂, rfl, F₂, N₂, hin₂, ⟨_, _, rfl⟩, hJ₂⟩
  · rintro h' tk m' news' F' N' ⟨⟨u1, u2, rfl⟩, hJ⟩
    exact hR u1 u2 h' tk news' F' N' hJ
end
end Mine
end

section
open PySem PySem.W PyProof.Rows PySem.Spec PySem.Calls
namespace Mine

theorem dict_empty {prog : Program} {w : World} {K : Type} [DecidableEq K] {knd : KeyKind prog w K} {o : Obj} (h : o.IsDictOf knd []) : ∃ ep, o = dictObj (ents prog w []) ep := by
  obtain ⟨c, dd, da, sl⟩ := o
  obtain ⟨es, ep, ⟨e1, e2, e3⟩, hd, _, hp, _⟩ := h
  dsimp only at e1 e2 e3 hd
  subst e1 e2 e3 hd
  have : es = ents prog w [] := by
    have h1 := hp.length
    simp only [List.length_nil, Array.length_toList] at h1
    have h2 : es = #[] := Array.eq_empty_of_size_eq_zero h1
    rw [h2]; rfl
  subst this
  exact ⟨ep, rfl⟩

section
variable {prog : Program} {w : World} {A : Around} {E : Value → Shared → Prop} {s : Shared} {g : Heap} {L D a : Addr} {m : Str → Option Value} {news : List (Addr × Obj)} {gg : Obj → List (Addr × Obj)} {W : Know} {r : List Rw} {ep : Nat} {k : Key}

theorem my_dict_nil {env : Env} {pos : Pos} {Q : Value → Shared → Prop} (F : Fr g L s.heap m) (N : News g L s.heap news) (hbig : g.NoLimit)
    (h : ∀ D ep h', Fr g L h' m → News g L h' ((D, dictObj (ents prog w []) ep) :: news) → (∀ p ∈ news, p.1 < D) → (D == sysModules) = false → Q (.ref D) { s with heap := h' }) : wpAny (model prog w) A (eval (.Dict [] [] pos) env) Q E s :=
  newDict_K F N hbig fun d h' o F' N' l lo hs _ _ _ => by
    obtain ⟨ep, rfl⟩ := dict_empty hs
    exact h d ep h' F' N' l lo

theorem key_here (F : Fr g L s.heap m) (hW : ∀ a o, W a o → g.get? a = some o) (hk : KeyAt W k a) : IsTupleKey (mixK prog w) s.heap (enc k) a := hk.tup fun a o q => F.keep _ _ (hW a o q)
theorem dict_here (F : Fr g L s.heap m) (hW : ∀ a o, W a o → g.get? a = some o) (ho : s.heap.get? D = some (dictObj (ents prog w r) ep)) (hn : (r.map (·.1)).Nodup) (hk : ∀ x ∈ r, KeyAt W x.1 x.2.2.1) : s.heap.DictOfH (tupleKind (mixK prog w)) D (xsOf r) :=
  dictOfH_of ho hn fun x hx => key_here F hW (hk x hx)

theorem my_setItem {v : Int} {tk : Tok} {Q : Unit → Shared → Prop} (hu : A.units + 1 < cLine) (F : Fr g L s.heap m) (N : News g L s.heap news) (U : UpdF D (dictObj (ents prog w r) ep) news gg) (hW : ∀ a o, W a o → g.get? a = some o)
    (hn : (r.map (·.1)).Nodup) (hk : ∀ x ∈ r, KeyAt W x.1 x.2.2.1) (hkey : KeyAt W k a) (hz : r.length ≤ 100000)
    (h : ∀ h' ep' tk', Fr g L h' m → News g L h' (gg (dictObj (ents prog w (put r k a v tk)) ep')) → Q () { s with heap := h', toks := tk' }) : wpAny (model prog w) A (setItem (.ref D) (.ref a) (.int v tk)) Q E s := by
  obtain ⟨pre, post, rfl, hg, h1, h2⟩ := U.split
  have hm := N (D, dictObj (ents prog w r) ep) (List.mem_append_right _ (.head _))
  refine wpAny_setItem_heap (knd := tupleKind (mixK prog w)) (k := enc k) (xs := xsOf r) (tupleKind_room_in1 hu) (key_here F hW hkey) (dict_here F hW hm.1 hn hk) (fun h' hd hs => ?_) (by rw [sizeLine_eq]; simp only [xsOf, List.length_map]; omega)
  rw [stored_xs hn] at hd
  obtain ⟨ep', ho'⟩ := obj_of_dictOfH hd
  exact h h' ep' _ (F.change hs hm.2.1 hm.2.2) (hg _ ▸ N.setAt h1 h2 hs ho')

theorem my_in {b : Bool} {Q : Value → Shared → Prop} (hu : A.units + 1 < cLine) (F : Fr g L s.heap m) (ho : s.heap.get? D = some (dictObj (ents prog w r) ep)) (hlo : (D == sysModules) = false) (hW : ∀ a o, W a o → g.get? a = some o)
    (hn : (r.map (·.1)).Nodup) (hk : ∀ x ∈ r, KeyAt W x.1 x.2.2.1) (hkey : KeyAt W k a) (hb : decide (k ∈ r.map (·.1)) = b)
    (h : ∀ tk', Q (.bool b) { s with toks := tk' }) : wpAny (model prog w) A (compareOp .In (.ref a) (.ref D)) Q E s := by
  refine wpAny_in_heap (knd := tupleKind (mixK prog w)) (k := enc k) (xs := xsOf r) (tupleKind_room_in1 hu) (key_here F hW hkey) hlo (dict_here F hW ho hn hk) ?_
  have e : (atKey (xsOf r) (enc k)).isSome = b := by
    rw [← hb]
    by_cases hm : k ∈ r.map (·.1)
    · obtain ⟨x, hx, rfl⟩ := List.mem_map.mp hm
      rw [atKey_some hn hx, decide_eq_true hm]; rfl
    · rw [atKey_none hm, decide_eq_false hm]; rfl
  rw [e]; exact h _

theorem my_getItem {x : Rw} {Q : Value → Shared → Prop} (hu : A.units + 1 < cLine) (F : Fr g L s.heap m) (ho : s.heap.get? D = some (dictObj (ents prog w r) ep)) (hW : ∀ a o, W a o → g.get? a = some o)
    (hn : (r.map (·.1)).Nodup) (hk : ∀ x ∈ r, KeyAt W x.1 x.2.2.1) (hkey : KeyAt W k a) (hx : x ∈ r) (hxk : x.1 = k)
    (h : ∀ tk', Q (.int x.2.1 x.2.2.2) { s with toks := tk' }) : wpAny (model prog w) A (getItem (.ref D) (.ref a)) Q E s := by
  subst hxk
  exact wpAny_getItem_heap (knd := tupleKind (mixK prog w)) (k := enc x.1) (xs := xsOf r) (tupleKind_room_in1 hu) (key_here F hW hkey) (dict_here F hW ho hn hk) (atKey_some hn hx) (h _)
end
end Mine
end

section
open PySem PySem.W PyProof.Rows PySem.Spec PySem.Calls
namespace Mine

def GEnd (g : Heap) (L : Addr) (I : Addr) (ito : Obj) (J : (Str → Option Value) → List (Addr × Obj) → Prop) (s₁ : Shared) (f : Flow) (s₂ : Shared) : Prop :=
  f = .next ∧ ∃ h' tk' m₂ news₂, s₂ = { s₁ with heap := h', toks := tk' } ∧ Fr g L h' m₂ ∧ News g L h' ((I, ito) :: news₂) ∧ (∀ p ∈ news₂, p.1 ≠ I) ∧ J m₂ news₂
theorem GEnd.intro {g : Heap} {L : Addr} {I : Addr} {ito : Obj} {J : (Str → Option Value) → List (Addr × Obj) → Prop} {s₁ : Shared} {h' : Heap} {tk' : Nat} {m₂ : Str → Option Value} {news₂ : List (Addr × Obj)} (F : Fr g L h' m₂)
    (N : News g L h' ((I, ito) :: news₂)) (hi : ∀ p ∈ news₂, p.1 ≠ I) (hJ : J m₂ news₂) : GEnd g L I ito J s₁ .next { s₁ with heap := h', toks := tk' } := ⟨rfl, h', tk', m₂, news₂, rfl, F, N, hi, hJ⟩

section
variable {prog : Program} {w : World} {A : Around} {s : Shared} {env : Env}

theorem loop_gen {R : Result → Shared → Prop} {target : Expr} {body : List Stmt} {I : Addr} {fp : List Addr} {n : Nat} {P : Nat → Value → Prop} {St : Nat → Heap → Prop} {m : Str → Option Value} {news : List (Addr × Obj)} {g : Heap}
    (W : Walks prog w A I fp [I] n P St) (hfp : ∀ b ∈ fp, b = I ∨ ∃ o, g.get? b = some o) (hob : ∀ i h, St i h → ∃ o, h.get? I = some o)
    (hgo : ∀ i (s' : Shared) v (Q' : Unit → Shared → Prop), St i s'.heap → Q' () s' → wpAny (model prog w) A (letOwnedTupleGo target (.ref I) v) Q' (fun _ _ => False) s')
    (hst : St 0 s.heap) (F : Fr g env.locals s.heap m) (N : News g env.locals s.heap news) (hIL : I ≠ env.locals) (hIg : g.get? I = none) (hIn : ∀ p ∈ news, p.1 ≠ I)
    (J : Nat → (Str → Option Value) → List (Addr × Obj) → Prop) (h0 : J 0 m news)
    (step : ∀ i v m₁ news₁ h tk ito, i < n → P i v → J i m₁ news₁ → (∀ p ∈ news₁, p.1 ≠ I) → Fr g env.locals h m₁ → News g env.locals h ((I, ito) :: news₁) →
      wpAny (model prog w) A (assign target env v) (fun _ s₂ => wpAny (model prog w) A (execs body env) (GEnd g env.locals I ito (J (i + 1)) { s with heap := h, toks := tk }) (fun _ _ => False) s₂) (fun _ _ => False) { s with heap := h, toks := tk })
    (hR : ∀ h' tk m' news', Fr g env.locals h' m' → News g env.locals h' news' → J n m' news' → R (.ok .next) { s with heap := h', toks := tk }) :
    codeAny (model prog w) A (.forLoop target (.ref I) body [] env) R s := by
  refine codeAny_forLoop_any
    (fun k s' => ∃ h' tk m' news' i, s' = { s with heap := h', toks := tk } ∧ St i h' ∧ Fr g env.locals h' m' ∧ News g env.locals h' news' ∧ (∀ p ∈ news', p.1 ≠ I) ∧ J i m' news' ∧ i ≤ n ∧ k = n + 1 - i) ?_ (n + 1)
    ⟨s.heap, s.toks, m, news, 0, rfl, hst, F, N, hIn, h0, Nat.zero_le _, rfl⟩
  rintro k s' ⟨H, tk, m', news', i, rfl, hst', F', N', hIn', hJ, hi, rfl⟩
  have keepF : ∀ h₁ : Heap, (∀ b o, b ∉ [I] → H.get? b = some o → h₁.get? b = some o) → Fr g env.locals h₁ m' ∧ News g env.locals h₁ news' := fun h₁ hk =>
    ⟨⟨F'.ns.at' fun o x => hk _ o (by simpa using Ne.symm hIL) x, fun b o x => hk b o (by simp only [List.mem_singleton]; intro q; rw [q, hIg] at x; cases x) (F'.keep b o x), F'.above⟩,
      fun p hp => ⟨hk _ _ (by simpa using hIn' p hp) (N' p hp).1, (N' p hp).2⟩⟩
  by_cases hlt : i < n
  · refine W.item i _ _ _ hlt hst' fun v h₁ tk₁ hP hst₁ hk₁ => ?_
    obtain ⟨F₁, N₁⟩ := keepF h₁ hk₁
    obtain ⟨ito, hito⟩ := hob _ _ hst₁
    have N₂ : News g env.locals h₁ ((I, ito) :: news') := by
      intro p hp
      rcases List.mem_cons.mp hp with rfl | hp
      · exact ⟨hito, hIL, hIg⟩
      · exact N₁ p hp
    refine wpAny_mono (hgo (i + 1) _ v _ hst₁ (wpAny_mono (step i v m' news' h₁ tk₁ ito hlt hP hJ hIn' F₁ N₂) (fun _ s₂ h₂ => wpAny_mono h₂ (fun f s₃ h₃ => ?_) fun _ _ x => x.elim) fun _ _ x => x.elim)) (fun _ _ x => x) fun _ _ x => x.elim
    obtain ⟨rfl, h₃, tk₃, m₂, news₂, rfl, F₃, N₃, hIn₃, hJ₃⟩ := h₃
    refine ⟨n + 1 - (i + 1), by omega, h₃, tk₃, m₂, news₂, i + 1, rfl, ?_, F₃, fun p hp => N₃ p (.tail _ hp), hIn₃, hJ₃, hlt, rfl⟩
    refine W.frame _ _ _ hst₁ fun b hb o e => ?_
    rcases hfp b hb with rfl | ⟨o', ho'⟩
    · rw [hito] at e
      obtain rfl := Option.some.inj e
      exact (N₃ _ (.head _)).1
    · have : h₁.get? b = some o' := F₁.keep b o' ho'
      rw [this] at e
      obtain rfl := Option.some.inj e
      exact F₃.keep b _ ho'
  · have hin : i = n := by omega
    subst hin
    refine W.done _ _ _ hst' fun h₁ tk₁ hk₁ => wpAny_execs_nil ?_
    obtain ⟨F₁, N₁⟩ := keepF h₁ hk₁
    exact hR h₁ tk₁ m' news' F₁ N₁ hJ
end

-- the values of a dict
abbrev vitObj (d : Addr) (i n ep : Nat) : Obj := { cls := .type "dict_valueiterator", dict := none, data := .fields #[.ref d, .int i 0, .int n 0, .int ep 0], slots := #[] }
section
variable {prog : Program} {w : World} {A : Around} {E : Value → Shared → Prop} {s : Shared} {it d : Addr} {i ep : Nat} {es : Array DictEntry}

theorem vit_next {Q : Option Value → Shared → Prop} {e : DictEntry} (hit : s.heap.get? it = some (vitObj d i es.size ep)) (hd : DictE s.heap d es ep) (hx : es[i]? = some e)
    (hQ : ∀ h', h'.get? it = some (vitObj d (i + 1) es.size ep) → Heap.SameBut it s.heap h' → Q (some e.val) { s with heap := h' }) : wpAny (model prog w) A (pyNext (.ref it)) Q E s := by
  obtain ⟨od, hod, hcd, hdd⟩ := id hd
  have hT : s.TypeIs (.ref it) "dict_valueiterator" := ⟨_, hit, rfl⟩
  unfold pyNext
  refine wpAny_bind (wpAny_attempt (wpAny_callSpecial?_slot (name := Str.ofString "__next__") hT PySem.F.slot_dict_valueiterator_next
    (wpAny_call_entry PySem.F.slot_dict_valueiterator_next hT PySem.F.entry_dict_valueiterator_next ?_ (PySem.F.args_dict_valueiterator_next_1 _))))
  refine wpAny_bind (wpAny_pure ?_)
  refine wpAny_bind ?_
  refine wpAny_bind ?_
  refine wpAny_bind (wpAny_typeNameOfWhole_valiter hT (wpAny_pure ?_))
  refine wpAny_bind (wpAny_fieldsOf hit rfl ?_)
  have hown : Builtin.Dict_items.ownsTuple "dict_valueiterator" = false := by decide
  simp only [hown, Bool.false_eq_true, if_false]
  show wpAny _ _ (if (Value.ref d == Value.none) = true then _ else _) _ _ s
  rw [if_neg (show ¬ ((Value.ref d == Value.none) = true) from Bool.false_ne_true)]
  refine wpAny_bind (wpAny_pure ?_)
  refine wpAny_bind (wpAny_dictEntries hod hdd ?_)
  rw [if_neg (by simp)]
  refine wpAny_bind (wpAny_pure ?_)
  refine wpAny_bind (wpAny_dictEpoch hod hdd ?_)
  rw [if_neg (by simp)]
  refine wpAny_pure ?_
  simp only [show ¬ ((i : Int) < 0) from by omega, if_false, Int.toNat_natCast, hx]
  refine wpAny_bind ?_
  refine wpAny_bind (wpAny_typeNameOfWhole_valiter hT (wpAny_pure ?_))
  refine wpAny_bind (wpAny_isOneOf_valiter hT ?_)
  show wpAny _ _ (setField (.ref it) 1 (rawInt ((i : Int) + 1)) >>= _) _ _ s
  refine wpAny_bind (wpAny_setField_rec hit (by simp) fun h₁ he₁ hs₁ => ?_)
  replace hs₁ : Heap.SameBut it s.heap h₁ := hs₁
  replace he₁ : h₁.get? it = some (vitObj d (i + 1) es.size ep) := by
    have e : ((i + 1 : Nat) : Int) = (i : Int) + 1 := by omega
    unfold vitObj; rw [e]; simpa [rawInt] using he₁
  have hT₁ : Shared.TypeIs { s with heap := h₁ } (.ref it) "dict_valueiterator" := ⟨_, he₁, rfl⟩
  refine wpAny_bind (wpAny_holding ?_)
  refine wpAny_bind (wpAny_isOneOf_valiter hT₁ ?_)
  refine wpAny_bind (wpAny_isOneOf_valiter hT₁ ?_)
  show wpAny _ _ (pure e.val) _ _ _
  exact wpAny_pure (wpAny_pure ⟨_, rfl, wpAny_pure (hQ _ he₁ hs₁)⟩)

theorem vit_end {Q : Option Value → Shared → Prop} (hh : A.handled = none) (hit : s.heap.get? it = some (vitObj d i es.size ep)) (hd : DictE s.heap d es ep) (hge : es.size ≤ i)
    (hQ : ∀ h', Heap.ExtBut it s.heap h' → Q none { s with heap := h' }) : wpAny (model prog w) A (pyNext (.ref it)) Q E s := by
  obtain ⟨od, hod, hcd, hdd⟩ := id hd
  have hT : s.TypeIs (.ref it) "dict_valueiterator" := ⟨_, hit, rfl⟩
  unfold pyNext
  refine wpAny_bind (wpAny_attempt (wpAny_callSpecial?_slot (name := Str.ofString "__next__") hT PySem.F.slot_dict_valueiterator_next
    (wpAny_call_entry PySem.F.slot_dict_valueiterator_next hT PySem.F.entry_dict_valueiterator_next ?_ (PySem.F.args_dict_valueiterator_next_1 _))))
  refine wpAny_bind (wpAny_pure ?_)
  refine wpAny_bind ?_
  refine wpAny_bind ?_
  refine wpAny_bind (wpAny_typeNameOfWhole_valiter hT (wpAny_pure ?_))
  refine wpAny_bind (wpAny_fieldsOf hit rfl ?_)
  have hown : Builtin.Dict_items.ownsTuple "dict_valueiterator" = false := by decide
  simp only [hown, Bool.false_eq_true, if_false]
  show wpAny _ _ (if (Value.ref d == Value.none) = true then _ else _) _ _ s
  rw [if_neg (show ¬ ((Value.ref d == Value.none) = true) from Bool.false_ne_true)]
  refine wpAny_bind (wpAny_pure ?_)
  refine wpAny_bind (wpAny_dictEntries hod hdd ?_)
  rw [if_neg (by simp)]
  refine wpAny_bind (wpAny_pure ?_)
  refine wpAny_bind (wpAny_dictEpoch hod hdd ?_)
  rw [if_neg (by simp)]
  refine wpAny_pure ?_
  simp only [show ¬ ((i : Int) < 0) from by omega, if_false, Int.toNat_natCast, Array.getElem?_eq_none hge]
  refine wpAny_bind ?_
  refine wpAny_bind (wpAny_typeNameOfWhole_valiter hT (wpAny_pure ?_))
  show wpAny _ _ (setField (.ref it) 0 .none >>= _) _ _ s
  refine wpAny_bind (wpAny_setField hit rfl (by simp) ?_)
  show wpAny _ _ (newExc (.type "StopIteration") [] >>= _) _ _ _
  refine wpAny_bind ?_
  simp only [newExc, newTuple]
  refine wpAny_bind (wpAny_newObj_type ?_ (by size_fits))
  refine wpAny_bind (m := firstArgMember _ _) (wpAny_of_eq (a := Value.none) (by first | rfl | (simp only [firstArgMember]; rfl)) ?_)
  refine wpAny_newObj_type ?_ (by size_fits)
  simp only [raiseNew]
  refine wpAny_bind (wpAny_handled ?_)
  rw [show A.in1.handled = none from hh]
  refine wpAny_bind (wpAny_pure (wpAny_throw ?_))
  refine wpAny_bind (wpAny_isInstance (T := "StopIteration") (b := true) ⟨_, Heap.get?_push_size _ rfl, rfl⟩ isSubtype_stop ?_)
  exact wpAny_pure (hQ _ (((Heap.SameBut.update ..).extBut.push _).push _))

theorem my_iter_values {v : Addr} {Q : Value → Shared → Prop} (hv : s.heap.get? v = some (valsObj d)) (ho : DictE s.heap d es ep)
    (hQ : Q (.ref s.heap.objs.size) { s with heap := s.heap.push (vitObj d 0 es.size ep) }) : wpAny (model prog w) A (pyIter (.ref v)) Q E s := by
  have hT : s.TypeIs (.ref v) "dict_values" := ⟨_, hv, rfl⟩
  obtain ⟨o, ho, hc, hdat⟩ := id ho
  refine wpAny_pyIter_slot hT PySem.F.slot_dict_values_iter (wpAny_call_entry PySem.F.slot_dict_values_iter hT PySem.F.entry_dict_values_iter ?_ (PySem.F.args_dict_values_iter_1 _))
  unfold Builtin.«dict_values.__iter__»
  refine wpAny_bind (wpAny_pure ?_)
  refine wpAny_bind ?_
  unfold Builtin.Dict_items.dictOf
  refine wpAny_bind (wpAny_field hv rfl (x := .ref d) rfl (wpAny_pure ?_))
  refine wpAny_bind ?_
  unfold Builtin.Dict_items.newIterator
  refine wpAny_bind (wpAny_dictEntries ho hdat ?_)
  refine wpAny_bind (wpAny_dictEpoch ho hdat ?_)
  have hown : Builtin.Dict_items.ownsTuple "dict_valueiterator" = false := by decide
  simp only [hown, Bool.false_eq_true, if_false]
  refine wpAny_newObj_type (wpAny_pure ⟨_, rfl, "dict_valueiterator", _, ⟨_, Heap.get?_push_size _ rfl, rfl⟩, PySem.F.slot_dict_valueiterator_next.lookup, ?_⟩)
  exact hQ
end

theorem walks_vals {prog : Program} {w : World} {A : Around} (hh : A.handled = none) (I d : Addr) (hne : d ≠ I) (es : Array DictEntry) (ep : Nat) :
    Walks prog w A I [I, d] [I] es.size (fun i v => ∃ e, es[i]? = some e ∧ v = e.val) (fun i h => h.get? I = some (vitObj d i es.size ep) ∧ DictE h d es ep) where
  sub := fun b hb => by simp at hb; simp [hb]
  frame := fun _ _ _ st hk => ⟨hk I (by simp) _ st.1, st.2.at fun o e => hk d (by simp) o e⟩
  item := fun i s Q E hi st hQ => by
    refine vit_next st.1 st.2 (e := es[i]) (by simp [hi]) fun h' hit' hs' => ?_
    exact hQ _ h' s.toks ⟨_, by simp [hi], rfl⟩ ⟨hit', st.2.at fun o e => hs'.extBut d o hne e⟩ fun b o hb e => hs'.extBut b o (fun h => hb (by simp [h])) e
  done := fun s Q E st hQ => vit_end hh st.1 st.2 (Nat.le_refl _) fun h' he' => hQ h' s.toks fun b o hb e => he' b o (fun h => hb (by simp [h])) e
  self := fun i s Q E st hQ => wpAny_pyIter_valiter ⟨_, st.1, rfl, rfl⟩ hQ

section
variable {prog : Program} {w : World} {A : Around} {E : Value → Shared → Prop} {s : Shared} {env : Env} {R : Result → Shared → Prop} {target : Expr} {body : List Stmt} {m : Str → Option Value} {news : List (Addr × Obj)} {g : Heap}

theorem iter_vals {x : Str} {px : Pos} {v d : Addr} {es : Array DictEntry} {ep : Nat} (hh : A.handled = none)
    (hv : s.heap.get? v = some (valsObj d)) (hd : DictE g d es ep) (F : Fr g env.locals s.heap m) (N : News g env.locals s.heap news)
    (J : Nat → (Str → Option Value) → List (Addr × Obj) → Prop) (h0 : J 0 m news)
    (step : ∀ i e m₁ news₁ h tk I ito, es[i]? = some e → J i m₁ news₁ → (∀ p ∈ news₁, p.1 ≠ I) → Fr g env.locals h m₁ → News g env.locals h ((I, ito) :: news₁) →
      wpAny (model prog w) A (assign (.Name x px) env e.val) (fun _ s₂ => wpAny (model prog w) A (execs body env) (GEnd g env.locals I ito (J (i + 1)) { s with heap := h, toks := tk }) (fun _ _ => False) s₂) (fun _ _ => False) { s with heap := h, toks := tk })
    (hR : ∀ h' tk m' news', Fr g env.locals h' m' → News g env.locals h' news' → J es.size m' news' → R (.ok .next) { s with heap := h', toks := tk }) :
    wpAny (model prog w) A (pyIter (.ref v)) (fun it s₂ => codeAny (model prog w) A (.forLoop (.Name x px) it body [] env) R s₂) E s := by
  refine my_iter_values hv (hd.at fun o e => F.keep d o e) ?_
  have hLs : env.locals < s.heap.objs.size := F.ns.lt
  have hdg : ∃ o, g.get? d = some o := let ⟨o, ho, _⟩ := hd; ⟨o, ho⟩
  have hds : d ≠ s.heap.objs.size := let ⟨o, ho, _⟩ := hd; Nat.ne_of_lt (Heap.lt_size (F.keep d o ho))
  refine loop_gen (g := g) (m := m) (news := news) (walks_vals hh _ d hds es ep) ?_ ?_ (fun _ _ _ _ _ q => wpAny_pure q) ⟨Heap.get?_push_size _ rfl, hd.at fun o e => Heap.get?_push_of_some _ (F.keep d o e)⟩ (F.push _)
    (fun p hp => ⟨Heap.get?_push_of_some _ (N p hp).1, (N p hp).2⟩) (Nat.ne_of_gt hLs) (next_is_new F) (fun p hp => Nat.ne_of_lt (Heap.lt_size (N p hp).1)) J h0 ?_ hR
  · intro b hb
    rcases List.mem_cons.mp hb with rfl | hb
    · exact .inl rfl
    · rw [List.mem_singleton.mp hb]; exact .inr hdg
  · intro i h st; exact ⟨_, st.1⟩
  · rintro i v m₁ news₁ h tk ito hi ⟨e, he, rfl⟩ hJ hin F₁ N₁
    exact step i e m₁ news₁ h tk _ ito he hJ hin F₁ N₁

/-- a list of the base -/
theorem iter_list {l : Addr} {vs : Array Value} (hh : A.handled = none) (hl : g.IsList l vs) (F : Fr g env.locals s.heap m) (N : News g env.locals s.heap news)
    (hgo : ∀ I i (s' : Shared) v (Q' : Unit → Shared → Prop), s'.heap.IsListIter I l i → Q' () s' → wpAny (model prog w) A (letOwnedTupleGo target (.ref I) v) Q' (fun _ _ => False) s')
    (J : Nat → (Str → Option Value) → List (Addr × Obj) → Prop) (h0 : J 0 m news)
    (step : ∀ i v m₁ news₁ h tk I ito, vs[i]? = some v → J i m₁ news₁ → (∀ p ∈ news₁, p.1 ≠ I) → Fr g env.locals h m₁ → News g env.locals h ((I, ito) :: news₁) →
      wpAny (model prog w) A (assign target env v) (fun _ s₂ => wpAny (model prog w) A (execs body env) (GEnd g env.locals I ito (J (i + 1)) { s with heap := h, toks := tk }) (fun _ _ => False) s₂) (fun _ _ => False) { s with heap := h, toks := tk })
    (hR : ∀ h' tk m' news', Fr g env.locals h' m' → News g env.locals h' news' → J vs.size m' news' → R (.ok .next) { s with heap := h', toks := tk }) :
    wpAny (model prog w) A (pyIter (.ref l)) (fun it s₂ => codeAny (model prog w) A (.forLoop target it body [] env) R s₂) E s := by
  have hls : s.heap.IsList l vs := hl.at fun o e => F.keep l o e
  refine wpAny_pyIter_list hls ?_
  have hLs : env.locals < s.heap.objs.size := F.ns.lt
  have hlg : ∃ o, g.get? l = some o := let ⟨o, ho, _⟩ := hl; ⟨o, ho⟩
  have hlt : l ≠ s.heap.objs.size := let ⟨o, ho, _⟩ := hls; Nat.ne_of_lt (Heap.lt_size ho)
  refine loop_gen (g := g) (m := m) (news := news) (Walks.list hh _ l hlt vs) ?_ ?_ (fun i s' v Q' st q => hgo _ _ s' v Q' st.1 q) ⟨⟨_, Heap.get?_push_size _ rfl, rfl, rfl⟩, hls.at fun o e => Heap.get?_push_of_some _ e⟩ (F.push _)
    (fun p hp => ⟨Heap.get?_push_of_some _ (N p hp).1, (N p hp).2⟩) (Nat.ne_of_gt hLs) (next_is_new F) (fun p hp => Nat.ne_of_lt (Heap.lt_size (N p hp).1)) J h0 ?_ hR
  · intro b hb
    rcases List.mem_cons.mp hb with rfl | hb
    · exact .inl rfl
    · rw [List.mem_singleton.mp hb]; exact .inr hlg
  · intro i h st
    obtain ⟨⟨o, ho, _⟩, _⟩ := st
    exact ⟨o, ho⟩
  · intro i v m₁ news₁ h tk ito hi hv hJ hin F₁ N₁
    exact step i v m₁ news₁ h tk _ ito hv hJ hin F₁ N₁

/-- a range from nought -/
theorem iter_range {x : Str} {px : Pos} {r : Addr} {n : Nat} {t u v : Tok} (hh : A.handled = none) (hr : IsRange s.heap r 0 n 1 t u v) (hn : n ≤ 1000000) (F : Fr g env.locals s.heap m) (N : News g env.locals s.heap news)
    (J : Nat → (Str → Option Value) → List (Addr × Obj) → Prop) (h0 : J 0 m news)
    (step : ∀ i t m₁ news₁ h tk I ito, i < n → J i m₁ news₁ → (∀ p ∈ news₁, p.1 ≠ I) → Fr g env.locals h m₁ → News g env.locals h ((I, ito) :: news₁) →
      wpAny (model prog w) A (assign (.Name x px) env (.int i t)) (fun _ s₂ => wpAny (model prog w) A (execs body env) (GEnd g env.locals I ito (J (i + 1)) { s with heap := h, toks := tk }) (fun _ _ => False) s₂) (fun _ _ => False) { s with heap := h, toks := tk })
    (hR : ∀ h' tk m' news', Fr g env.locals h' m' → News g env.locals h' news' → J n m' news' → R (.ok .next) { s with heap := h', toks := tk }) :
    wpAny (model prog w) A (pyIter (.ref r)) (fun it s₂ => codeAny (model prog w) A (.forLoop (.Name x px) it body [] env) R s₂) E s := by
  have hsz : Builtin.Range.rangeSize 0 n 1 = (n : Int) := by
    unfold Builtin.Range.rangeSize
    rw [if_pos (by decide)]
    split
    · rw [Int.ediv_one]; omega
    · omega
  have hsm : Builtin.Range.small 0 n 1 = true := small_one (by omega) (by omega) (by omega) (by omega)
  refine wpAny_pyIter_range hr hsm ?_
  have hLs : env.locals < s.heap.objs.size := F.ns.lt
  refine loop_gen (g := g) (m := m) (news := news) (Walks.range hh _ 0 1 n) (fun b hb => .inl (List.mem_singleton.mp hb)) (fun i h st => ⟨_, st⟩) (fun _ _ _ _ _ q => wpAny_pure q) (by rw [hsz]; simpa using Heap.get?_push_size _ rfl) (F.push _)
    (fun p hp => ⟨Heap.get?_push_of_some _ (N p hp).1, (N p hp).2⟩) (Nat.ne_of_gt hLs) (next_is_new F) (fun p hp => Nat.ne_of_lt (Heap.lt_size (N p hp).1)) J h0 ?_ hR
  rintro i v m₁ news₁ h tk ito hi ⟨t, rfl⟩ hJ hin F₁ N₁
  have e : (0 : Int) + (i : Int) * 1 = i := by omega
  rw [e]
  exact step i t m₁ news₁ h tk _ ito hi hJ hin F₁ N₁
end
end Mine
end

section
open PySem PySem.W PyProof.Rows PySem.Spec PySem.Calls
namespace Mine

structure LG (es : Array DictEntry) (lo : Addr) (h : Heap) (as : List Addr) : Prop where
  above : ∀ a ∈ as, lo < a
  pairs : ∀ (j : Nat) (a : Addr), as[j]? = some a → ∃ e, es[j]? = some e ∧ h.get? a = some (tupOf [e.key, e.val] 0)

def LSt (h : Heap) (it d S : Addr) (i n ep : Nat) : Prop := ∃ f0 fl ok ov, h.get? it = some (itObj f0 fl d i n ep ok ov) ∧ (f0 = .none ∨ ∃ a oa, f0 = rawInt (a : Nat) ∧ h.get? a = some oa ∧ a ≠ it ∧ a ≠ S)
theorem LSt.keep {h h' : Heap} {it d S : Addr} {i n ep : Nat} (x : LSt h it d S i n ep) (hk : ∀ b o, b ≠ S → h.get? b = some o → h'.get? b = some o) (hI : it ≠ S) : LSt h' it d S i n ep := by
  obtain ⟨f0, fl, ok, ov, hit, hf⟩ := x
  refine ⟨f0, fl, ok, ov, hk _ _ hI hit, ?_⟩
  rcases hf with e | ⟨a, oa, e, ha, h1, h2⟩
  · exact .inl e
  · exact .inr ⟨a, oa, e, hk _ _ h2 ha, h1, h2⟩

section
variable {prog : Program} {w : World} {A : Around} {E : Value → Shared → Prop} {s : Shared} {it d S : Addr} {i ep : Nat} {es : Array DictEntry}

theorem l_item {e : DictEntry} {Q : Option Value → Shared → Prop} (hst : LSt s.heap it d S i es.size ep) (hS : S < s.heap.objs.size) (hd : DictE s.heap d es ep) (hx : es[i]? = some e)
    (hQ : ∀ h', LSt h' it d S (i + 1) es.size ep → h'.get? s.heap.objs.size = some (tupOf [e.key, e.val] 0) → h'.objs.size = s.heap.objs.size + 1 →
      (∀ b o, b ≠ it → s.heap.get? b = some o → h'.get? b = some o) → Q (some (.ref s.heap.objs.size)) { s with heap := h' }) : wpAny (model prog w) A (pyNext (.ref it)) Q E s := by
  obtain ⟨f0, fl, ok, ov, hit, hf⟩ := hst
  refine it_next hit ?_ hd hx fun h' f0' fl' ok' ov' hit' hf' ht hz hk => ?_
  · rcases hf with e | ⟨a, oa, e, ha, h1, _⟩
    · exact .inl e
    · exact .inr ⟨a, oa, e, ha, h1⟩
  refine hQ h' ⟨f0', fl', ok', ov', hit', ?_⟩ ht hz hk
  have hil : it < s.heap.objs.size := Heap.lt_size hit
  rcases hf' with ⟨_, e⟩ | ⟨hne, e⟩
  · exact .inr ⟨_, _, e, ht, Nat.ne_of_gt hil, Nat.ne_of_gt hS⟩
  · rcases hf with e' | ⟨a, oa, e', ha, h1, h2⟩
    · exact absurd e' hne
    · exact .inr ⟨a, oa, e.trans e', hk a oa h1 ha, h1, h2⟩
end

section
variable {prog : Program} {w : World} {A : Around} {s : Shared} {R : Result → Shared → Prop} {es : Array DictEntry} {ep : Nat}

theorem l_loop {S I d : Addr} (hh : A.handled = none) (hSI : S < I) (hSd : d ≠ S) (hId : d ≠ I) (hn : es.size ≤ sizeLine) (res : Value) {h₁ : Heap}
    (hR : ∀ h' tk acc c as, (∀ b o, b ≠ S → b ≠ I → h₁.get? b = some o → h'.get? b = some o) → h'.get? S = some (listOf acc c) → as.length = es.size → LG es I h' as →
      acc.toList = as.map Value.ref → R (.ok (.ret res)) { s with heap := h', toks := tk }) :
    ∀ (k i : Nat) (h : Heap) (tk c : Nat) (acc : Array Value) (as : List Addr), es.size - i = k → i ≤ es.size → LSt h I d S i es.size ep → DictE h d es ep → (∀ b o, b ≠ S → b ≠ I → h₁.get? b = some o → h.get? b = some o) →
      h.get? S = some (listOf acc c) → acc.toList = as.map Value.ref → as.length = i → LG es I h as → I < h.objs.size →
      codeAny (model prog w) A (.builtin "list.extend.loop" ⟨[.ref S, .ref I, res], []⟩) R { s with heap := h, toks := tk } := by
  have hne : S ≠ I := Nat.ne_of_lt hSI
  intro k
  induction k with
  | zero =>
    intro i h tk c acc as hk hi hst hD hkeep hS hacc hal hG hIs
    obtain ⟨f0, fl, ok, ov, hit, _⟩ := hst
    refine codeAny_builtin PySem.F.entry_extend_loop ?_
    rw [Around.under_plainId PySem.F.plain_extend_loop _]
    show wpAny _ A.in1 (pyNext (.ref I) >>= _) _ _ _
    refine wpAny_bind (it_end (s := { s with heap := h, toks := tk }) (A := A.in1) hh hit hD (by omega) fun h' he => ?_)
    refine wpAny_pure (hR h' tk acc c as (fun b o h1 h2 e => he b o h2 (hkeep b o h1 h2 e)) (he S _ hne hS) (by omega) ⟨hG.above, fun j a hj => ?_⟩ hacc)
    obtain ⟨e, e1, e3⟩ := hG.pairs j a hj
    exact ⟨e, e1, he a _ (Nat.ne_of_gt (hG.above a (List.mem_of_getElem? hj))) e3⟩
  | succ k ih =>
    intro i h tk c acc as hk hi hst hD hkeep hS hacc hal hG hIs
    have hlt : i < es.size := by omega
    obtain ⟨e, hx⟩ : ∃ e, es[i]? = some e := ⟨es[i], by simp [hlt]⟩
    have hsz : acc.size = i := by rw [← Array.length_toList, hacc, List.length_map, hal]
    refine codeAny_builtin PySem.F.entry_extend_loop ?_
    rw [Around.under_plainId PySem.F.plain_extend_loop _]
    show wpAny _ A.in1 (pyNext (.ref I) >>= _) _ _ _
    refine wpAny_bind (l_item (s := { s with heap := h, toks := tk }) (S := S) hst (Heap.lt_size hS) hD hx fun h' hst' ht hz hkp => ?_)
    dsimp only at ht hz hkp ⊢
    have hS' := hkp S _ hne hS
    have up : ∀ b o, b ≠ S → h'.get? b = some o → (h'.update S (Obj.mapSeq (·.push (Value.ref h.objs.size)))).get? b = some o := fun b o hb e => (Heap.get?_update_other _ _ (Ne.symm hb)).trans e
    have hSl : S < h.objs.size := Heap.lt_size hS
    show wpAny _ A.in1 (updateSeq S (·.push (Value.ref h.objs.size)) >>= _) _ _ _
    refine wpAny_bind ?_
    refine wpAny_updateSeq hS' rfl (wpAny_pure ⟨plainId_quiet PySem.F.plain_extend_loop _, ih (i + 1) _ tk _ (acc.push (Value.ref h.objs.size)) (as ++ [h.objs.size]) (by omega) hlt (hst'.keep up (Ne.symm hne)) (hD.at fun o e => up d o hSd (hkp d o hId e))
      (fun b o h1 h2 e => up b o h1 (hkp b o h2 (hkeep b o h1 h2 e))) (Heap.get?_update_self _ hS' rfl) (by rw [Array.toList_push, hacc, List.map_append]; rfl) (by rw [List.length_append, hal]; rfl) ⟨?_, ?_⟩ ?_⟩) (by rw [hsz]; omega) (by show (acc.push (Value.ref h.objs.size)).size ≤ sizeLine + 1; rw [Array.size_push, hsz]; omega)
    · intro a ha
      rcases List.mem_append.mp ha with ha | ha
      · exact hG.above a ha
      · rw [List.mem_singleton.mp ha]; exact hIs
    · intro j b hj
      rcases Nat.lt_trichotomy j as.length with h1 | h1 | h1
      · rw [List.getElem?_append_left h1] at hj
        obtain ⟨e', e1, e3⟩ := hG.pairs j b hj
        have hb := hG.above b (List.mem_of_getElem? hj)
        exact ⟨e', e1, up b _ (Nat.ne_of_gt (Nat.lt_trans hSI hb)) (hkp b _ (Nat.ne_of_gt hb) e3)⟩
      · subst h1
        have hb : h.objs.size = b := by simpa using hj
        subst hb
        exact ⟨e, by rw [hal]; exact hx, up _ _ (Nat.ne_of_gt hSl) ht⟩
      · have hnone : (as ++ [h.objs.size])[j]? = none := List.getElem?_eq_none (by rw [List.length_append, List.length_singleton]; omega)
        rw [hnone] at hj; cases hj
    · have e : (h'.update S (Obj.mapSeq (·.push (Value.ref h.objs.size)))).get? h.objs.size = _ := up _ _ (Nat.ne_of_gt hSl) ht
      exact Nat.lt_trans hIs (Heap.lt_size e)
end

section
variable {prog : Program} {w : World} {A : Around} {E : Value → Shared → Prop} {s : Shared} {r d : Addr} {es : Array DictEntry} {ep : Nat}

theorem l_extend {R : Result → Shared → Prop} (hh : A.handled = none) (hv : s.heap.get? r = some (viewObj d)) (hm : DictE s.heap d es ep) (S : Addr) (hSr : S ≠ r) (hSd : d ≠ S) (res : Value) (c₀ : Nat) (hS : s.heap.get? S = some (listOf #[] c₀))
    (hR : ∀ h' tk acc c as, (∀ b o, b ≠ S → s.heap.get? b = some o → h'.get? b = some o) → h'.get? S = some (listOf acc c) → as.length = es.size → LG es s.heap.objs.size h' as →
      acc.toList = as.map Value.ref → R (.ok (.ret res)) { s with heap := h', toks := tk }) (hn : es.size ≤ sizeLine) :
    wpAny (model prog w) A.in1 (Builtin.List.listExtendWith (.ref S) (.ref r) res)
      (fun fin s' => match fin with | .done f => R (.ok f) s' | .again c' => c'.quiet = true ∧ codeAny (model prog w) A c' R s') (fun e s' => R (.error e) s') s := by
  have hSI : S < s.heap.objs.size := Heap.lt_size hS
  have hT : s.TypeIs (.ref r) "dict_items" := ⟨_, hv, rfl⟩
  have hdI : d < s.heap.objs.size := let ⟨o, ho, _⟩ := hm; Heap.lt_size ho
  have key : ∀ (h : Heap) (c₁ tk : Nat), (∀ b o, b ≠ S → (s.heap.push (itObj .none false d 0 es.size ep .none .none)).get? b = some o → h.get? b = some o) →
      h.get? S = some (listOf #[] c₁) → codeAny (model prog w) A (.builtin "list.extend.loop" ⟨[.ref S, .ref s.heap.objs.size, res], []⟩) R { s with heap := h, toks := tk } := by
    intro h c₁ tk hk hS₁
    have hI := hk s.heap.objs.size _ (Nat.ne_of_gt hSI) (Heap.get?_push_size _ rfl)
    refine l_loop (es := es) (ep := ep) (s := s) (h₁ := s.heap) hh hSI hSd (Nat.ne_of_lt hdI) hn res (fun h' tk' acc c as hk' hS' hl hG hacc => hR h' tk' acc c as (fun b o hb e => hk' b o hb (Nat.ne_of_lt (Heap.lt_size e)) e) hS' hl hG hacc)
      es.size 0 h tk c₁ #[] [] (Nat.sub_zero _) (Nat.zero_le _) ⟨_, _, _, _, hI, .inl rfl⟩ (hm.at fun o e => hk d o hSd (Heap.get?_push_of_some _ e)) (fun b o hb _ e => hk b o hb (Heap.get?_push_of_some _ e)) hS₁ rfl rfl
      ⟨(fun _ ha => nomatch ha), (fun j a hj => by simp at hj)⟩ (Heap.lt_size hI)
  unfold Builtin.List.listExtendWith
  refine wpAny_bind (wpAny_typeOf (T := "dict_items") hT ?_)
  have h1 : Builtin.List.listSameRef (.ref S) (.ref r) = false := by simp [Builtin.List.listSameRef, hSr]
  have h2 : (Value.type "dict_items" == Value.type "list") = false := by decide
  have h3 : (Value.type "dict_items" == Value.type "tuple") = false := by decide
  simp only [h1, h2, h3, Bool.or_false, Bool.false_eq_true, if_false]
  refine wpAny_bind (my_iter_items ⟨_, hv, rfl, rfl⟩ hm ?_)
  have hS₁ := Heap.get?_push_of_some (itObj .none false d 0 es.size ep .none .none) hS
  refine wpAny_bind (wpAny_holding (kdx_hint ⟨_, Heap.get?_push_of_some _ hv, rfl⟩ ?_))
  refine wpAny_ite_split (fun _ => ?_) (fun _ => wpAny_pure ⟨plainId_quiet PySem.F.plain_extend_loop _, key _ c₀ _ (fun b o _ e => e) hS₁⟩)
  refine wpAny_bind (wpAny_rule ?_)
  refine wpAny_bind ?_
  show wpAny _ _ (updateSeq S (·.push .none) >>= fun _ => updateSeq S (·.pop)) _ _ _
  refine wpAny_bind (wpAny_updateSeq hS₁ rfl ?_)
  have hS₂ := Heap.get?_update_self (Obj.mapSeq (·.push Value.none)) hS₁ rfl
  refine wpAny_updateSeq (hz := by seq_fits) hS₂ rfl ?_
  have hS₃ := Heap.get?_update_self (Obj.mapSeq (·.pop)) hS₂ rfl
  refine wpAny_pure ⟨plainId_quiet PySem.F.plain_extend_loop _, key _ _ _ (fun b o hb e => ?_) hS₃⟩
  exact (Heap.get?_update_other _ _ (Ne.symm hb)).trans ((Heap.get?_update_other _ _ (Ne.symm hb)).trans e)

theorem l_init {R : Result → Shared → Prop} (hh : A.handled = none) (hv : s.heap.get? r = some (viewObj d)) (hm : DictE s.heap d es ep) (S : Addr) (hSr : S ≠ r) (hSd : d ≠ S) (hS : s.heap.get? S = some (listOf #[] 0))
    (hR : ∀ h' tk acc c as, (∀ b o, b ≠ S → s.heap.get? b = some o → h'.get? b = some o) → h'.get? S = some (listOf acc c) → as.length = es.size → LG es S h' as →
      acc.toList = as.map Value.ref → R (.ok (.ret .none)) { s with heap := h', toks := tk }) (hn : es.size ≤ sizeLine) :
    wpAny (model prog w) A.in1 (Builtin.«list.__init__» ⟨[.ref S, .ref r], []⟩)
      (fun fin s' => match fin with | .done f => R (.ok f) s' | .again c' => c'.quiet = true ∧ codeAny (model prog w) A c' R s') (fun e s' => R (.error e) s') s := by
  show wpAny _ _ (do let old ← Builtin.List.listItems (.ref S); Builtin.List.listUpdate (.ref S) (fun _ => #[]); letGo old.toList.reverse; Builtin.List.listExtendWith (.ref S) (.ref r) .none) _ _ s
  refine wpAny_bind ?_
  unfold Builtin.List.listItems
  refine wpAny_bind (wpAny_seqItems hS rfl (wpAny_pure ?_))
  show wpAny _ _ (updateSeq S (fun _ => #[]) >>= fun _ => letGo (#[] : Array Value).toList.reverse >>= fun _ => Builtin.List.listExtendWith (.ref S) (.ref r) .none) _ _ s
  refine wpAny_bind (wpAny_updateSeq hS rfl ?_)
  have hS₂ := Heap.get?_update_self (Obj.mapSeq (fun _ => (#[] : Array Value))) hS rfl
  have oth : ∀ b o, b ≠ S → s.heap.get? b = some o → (s.heap.update S (Obj.mapSeq (fun _ => (#[] : Array Value)))).get? b = some o :=
    fun b o hb e => (Heap.get?_update_other _ _ (Ne.symm hb)).trans e
  refine wpAny_bind (wpAny_letGo ?_)
  refine l_extend (es := es) (ep := ep) hh (oth r _ hSr.symm hv) (hm.at fun o e => oth d o hSd e) S hSr hSd .none _ hS₂ (fun h' tk acc c as hk hS' hl hG hacc => ?_) hn
  exact hR h' tk acc c as (fun b o hb e => hk b o hb (oth b o hb e)) hS' hl ⟨fun a ha => Nat.lt_trans (Heap.lt_size hS₂) (hG.above a ha), hG.pairs⟩ hacc

theorem l_call {Q : Value → Shared → Prop} (hh : A.handled = none) (hv : s.heap.get? r = some (viewObj d)) (hm : DictE s.heap d es ep) (hn : es.size ≤ sizeLine)
    (hQ : ∀ h' tk acc c as, (∀ b o, s.heap.get? b = some o → h'.get? b = some o) → h'.get? s.heap.objs.size = some (listOf acc c) → as.length = es.size → LG es s.heap.objs.size h' as →
      acc.toList = as.map Value.ref → Q (.ref s.heap.objs.size) { s with heap := h', toks := tk }) :
    wpAny (model prog w) A (call (.type "list") [.ref r]) Q E s := by
  refine callType_codes (Q₁ := fun obj s₁ => obj = .ref s.heap.objs.size ∧ s₁ = { s with heap := s.heap.push { cls := .type "list", data := .seq #[] } }) PySem.F.called_list (PySem.F.typeCall_list_1 _) PySem.F.entry_list_init
    (code_list_new _ ⟨rfl, rfl⟩) fun obj s₁ h₁ => ?_
  obtain ⟨rfl, rfl⟩ := h₁
  have hS : (s.heap.push { cls := .type "list", data := .seq #[] }).get? s.heap.objs.size = some (listOf #[] 0) := Heap.get?_push_size _ rfl
  have hr : r < s.heap.objs.size := Heap.lt_size hv
  have hd : d < s.heap.objs.size := let ⟨o, ho, _⟩ := hm; Heap.lt_size ho
  refine ⟨⟨_, hS, rfl⟩, PySem.F.args_list_init_2 _ _, l_init (es := es) (ep := ep) (A := A.in1) hh (Heap.get?_push_of_some _ hv) (hm.at fun o e => Heap.get?_push_of_some _ e) _ (Nat.ne_of_gt hr) (Nat.ne_of_lt hd) hS (fun h' tk acc c as hk hS' hl hG hacc => ?_) hn⟩
  exact ⟨rfl, hQ h' tk acc c as (fun b o e => hk b o (Nat.ne_of_lt (Heap.lt_size e)) (Heap.get?_push_of_some _ e)) hS' hl hG hacc⟩
end
end Mine
end

section
open PySem PySem.W PyProof.Rows PySem.Spec PySem.Calls
namespace Mine

def ClrAt (W : Know) (c : Clr) (p : Addr) : Prop := ∃ b tk n, W p (tupOf [.ref b, .int c.2 tk] n) ∧ KeyAt W c.1 b
def CsAt (W : Know) (cs : List Clr) (l : Addr) : Prop := ∃ (vs : List Value) (n : Nat), W l (listOf vs.toArray n) ∧ vs.length = cs.length ∧ ∀ (i : Nat) (c : Clr), cs[i]? = some c → ∃ p : Addr, vs[i]? = some (Value.ref p) ∧ ClrAt W c p
theorem ClrAt.mono {W W' : Know} {c : Clr} {a : Addr} (x : ClrAt W c a) (h : ∀ a o, W a o → W' a o) : ClrAt W' c a := let ⟨b, t, n, q, k⟩ := x; ⟨b, t, n, h _ _ q, k.mono h⟩
theorem CsAt.mono {W W' : Know} {cs : List Clr} {a : Addr} (x : CsAt W cs a) (h : ∀ a o, W a o → W' a o) : CsAt W' cs a :=
  let ⟨vs, n, q, e, k⟩ := x; ⟨vs, n, h _ _ q, e, fun i c hc => let ⟨p, hp, y⟩ := k i c hc; ⟨p, hp, y.mono h⟩⟩

section
variable {prog : Program} {w : World} {A : Around} {E : Value → Shared → Prop} {s : Shared} {g : Heap} {L D a : Addr} {m : Str → Option Value} {news : List (Addr × Obj)} {W : Know} {r : List Rw} {ep : Nat} {k : Key}

theorem my_list_items {v : Addr} {Q : Value → Shared → Prop} (hh : A.handled = none) (F : Fr g L s.heap m) (N : News g L s.heap news) (hv : s.heap.get? v = some (viewObj D)) (hd : s.heap.get? D = some (dictObj (ents prog w r) ep)) (hz : r.length ≤ 100000)
    (hk : ∀ x ∈ r, KeyAt W x.1 x.2.2.1)
    (h : ∀ S tl h' tk, Fr g L h' m → News g L h' (tl ++ news) → (∀ q ∈ tl, s.heap.get? q.1 = none) → CsAt (W.add tl) (tabOf r) S → Q (.ref S) { s with heap := h', toks := tk }) : wpAny (model prog w) A (call (.type "list") [.ref v]) Q E s := by
  refine l_call hh hv ⟨_, hd, rfl, rfl⟩ (by rw [ents_size, sizeLine_eq]; omega) fun h' tk acc c as hkeep hS hl hG hacc => ?_
  have hnew : ∀ x, s.heap.objs.size ≤ x → x ≠ L ∧ g.get? x = none := fun x hx => kdx_fresh F hx
  have hsn : ∀ x, s.heap.objs.size ≤ x → s.heap.get? x = none := fun x hx => by
    cases e : s.heap.get? x with
    | none => rfl
    | some o => exact absurd (Heap.lt_size e) (Nat.not_lt.mpr hx)
  refine h s.heap.objs.size ((s.heap.objs.size, listOf acc c) :: as.filterMap fun a => (h'.get? a).map fun o => (a, o)) h' tk (fr_stays F hkeep) ?_ ?_ ?_
  · intro p hp
    rcases List.mem_append.mp hp with hp | hp
    · rcases List.mem_cons.mp hp with rfl | hp
      · exact ⟨hS, hnew _ (Nat.le_refl _)⟩
      · obtain ⟨a, ha, e⟩ := List.mem_filterMap.mp hp
        obtain ⟨o, ho, rfl⟩ := Option.map_eq_some_iff.mp e
        exact ⟨ho, hnew _ (Nat.le_of_lt (hG.above a ha))⟩
    · exact ⟨hkeep _ _ (N p hp).1, (N p hp).2⟩
  · intro p hp
    rcases List.mem_cons.mp hp with rfl | hp
    · exact hsn _ (Nat.le_refl _)
    · obtain ⟨a, ha, e⟩ := List.mem_filterMap.mp hp
      obtain ⟨o, ho, rfl⟩ := Option.map_eq_some_iff.mp e
      exact hsn _ (Nat.le_of_lt (hG.above a ha))
  · refine ⟨acc.toList, c, .inr ?_, ?_, fun i x hx => ?_⟩
    · rw [Array.toArray_toList]; exact .head _
    · rw [hacc, List.length_map, hl, ents_size]; simp [tabOf]
    · have hi : i < r.length := by
        have := (List.getElem?_eq_some_iff.mp hx).1
        simpa [tabOf] using this
      have hi' : i < as.length := by rw [hl, ents_size]; exact hi
      obtain ⟨e, he, ho⟩ := hG.pairs i as[i] (by simp [hi'])
      obtain ⟨y, hy, ek, ev⟩ := ents_get he
      have hxy : x = (y.1, y.2.1) := by
        unfold tabOf at hx
        rw [List.getElem?_map, hy] at hx
        exact (Option.some.inj hx).symm
      subst hxy
      rw [ek, ev] at ho
      refine ⟨as[i], ?_, y.2.2.1, y.2.2.2, 0, .inr (.tail _ (List.mem_filterMap.mpr ⟨as[i], List.getElem_mem hi', by rw [ho]; rfl⟩)), (hk y (List.mem_of_getElem? hy)).mono fun _ _ q => .inl q⟩
      rw [hacc, List.getElem?_map]
      simp [hi']

theorem my_get2 {v0 : Int} {t0 : Tok} {Q : Value → Shared → Prop} (hu : A.units + 1 < cLine) (F : Fr g L s.heap m) (ho : s.heap.get? D = some (dictObj (ents prog w r) ep)) (hlo : (D == sysModules) = false) (hW : ∀ a o, W a o → g.get? a = some o)
    (hn : (r.map (·.1)).Nodup) (hk : ∀ x ∈ r, KeyAt W x.1 x.2.2.1) (hkey : KeyAt W k a)
    (h1 : ∀ x ∈ r, x.1 = k → ∀ tk', Q (.int x.2.1 x.2.2.2) { s with toks := tk' }) (h2 : k ∉ r.map (·.1) → ∀ tk', Q (.int v0 t0) { s with toks := tk' }) :
    wpAny (model prog w) A (call (.builtin "dict.get") [.ref D, .ref a, .int v0 t0]) Q E s := by
  have hm := dict_here (prog := prog) (w := w) F hW ho hn hk
  refine call_meetsIn PySem.F.slot_dict_get hm.typeIs PySem.F.entry_dict_get (PySem.F.args_dict_get_3 _ _ _) (meetsH_dict_get_default (tupleKind (mixK prog w)) D a hlo (.int v0 t0)) ⟨tupleKind_room_in1 hu, enc k, xsOf r, key_here F hW hkey, hm, ?_⟩
  by_cases hkm : k ∈ r.map (·.1)
  · obtain ⟨x, hx, rfl⟩ := List.mem_map.mp hkm
    rw [atKey_some hn hx]
    exact h1 x hx rfl _
  · rw [atKey_none hkm]
    exact h2 hkm _

theorem assign2 {env : Env} {xk xv : Str} {pk pv pt : Pos} {x1} {p : Addr} {v1 v2 : Value} {n : Nat} {Q : Unit → Shared → Prop} (hh : A.handled = none) (F : Fr g env.locals s.heap m) (N : News g env.locals s.heap news) (ht : s.heap.get? p = some (tupOf [v1, v2] n))
    (hxk : env.kindOf xk = some .local) (hxv : env.kindOf xv = some .local) (hp : (env.scope.kind == .class || (env.scope.kind == .module && env.locals != env.globals)) = false)
    (h : ∀ h' tk, Fr g env.locals h' (fun y => if y = xv then some v2 else if y = xk then some v1 else m y) → News g env.locals h' news → Q () { s with heap := h', toks := tk }) :
    wpAny (model prog w) A (assign (.Tuple [.Name xk pk, .Name xv pv] x1 pt) env (.ref p)) Q E s := by
  refine wpAny_assign_Tuple hh (items := #[v1, v2]) ⟨_, ht, rfl, n, rfl⟩ rfl rfl fun h₁ hx₁ => ?_
  have k₁ : ∀ b o, s.heap.get? b = some o → h₁.get? b = some o := fun b o e => hx₁ b o (Nat.ne_of_lt (Heap.lt_size e)) e
  have F₁ := fr_stays F k₁
  have N₁ : News g env.locals h₁ news := fun q hq => ⟨k₁ _ _ (N q hq).1, (N q hq).2⟩
  show wpAny _ _ (do holding [v2] (assign (.Name xk pk) env v1); do holding [] (assign (.Name xv pv) env v2); pure ()) _ _ _
  refine wpAny_bind (wpAny_holding (wpAny_assign_Name (wpAny_storeName_local hxk F₁.ns (fun h₄ hn₄ hs₄ => ?_) hp)))
  have F₄ := F₁.set hn₄ hs₄
  have N₄ := N₁.set hs₄
  refine wpAny_bind (wpAny_holding (wpAny_assign_Name (wpAny_storeName_local hxv F₄.ns (fun h₅ hn₅ hs₅ => wpAny_pure ?_) hp)))
  exact h h₅ _ (F₄.set hn₅ hs₅) (N₄.set hs₅)
end
end Mine
end

section
open PySem PySem.W PyProof.Rows PySem.Spec PySem.Calls PyProof.Rows.LCg
namespace Mine

section
variable {prog : Program} {w : World} {A : Around} {E : Value → Shared → Prop} {s : Shared} {g : Heap} {L : Addr} {m : Str → Option Value} {env : Env}

abbrev tests (ifs : List Expr) (env : Env) : Sem Bool := forIn ifs true fun c r => if r = true then do let ok ← isTrue c env (eval c env); pure (ForInStep.yield ok) else pure (ForInStep.yield r)

theorem my_compLoop {elt target iter : Expr} {ifs : List Expr} {scope : Scope} {pos : Pos} {it acc : Value} {R : Result → Shared → Prop} (I : Nat → Shared → Prop)
    (turn : ∀ n s, I n s → wpAny (model prog w) A (pyNext it) (fun r s₁ => match r with
      | none => R (.ok .next) s₁
      | some v => wpAny (model prog w) A (letOwnedTupleGo target it v) (fun _ s₀ => wpAny (model prog w) A (assign target env v) (fun _ s₂ =>
          wpAny (model prog w) A (tests ifs env) (fun ok s₃ => if ok = true then wpAny (model prog w) A (eval elt env) (fun x s₄ =>
            wpAny (model prog w) A (call (.builtin "list.append") [acc, x]) (fun _ s₅ => ∃ m, m < n ∧ I m s₅) (fun _ _ => False) s₄) (fun _ _ => False) s₃
            else ∃ m, m < n ∧ I m s₃) (fun _ _ => False) s₂) (fun _ _ => False) s₀) (fun _ _ => False) s₁) (fun _ _ => False) s)
    (n : Nat) (h : I n s) : codeAny (model prog w) A (.compLoop (.ListComp elt [⟨target, iter, ifs, 0⟩] scope pos) 0 it acc env) R s := by
  refine codeAny_loop rfl I (fun n s hI => ?_) n h
  show wpAny _ A ((compTurn (.ListComp elt [⟨target, iter, ifs, 0⟩] scope pos) 0 it acc env).onRaise (fun x => do noteFrame x env; theTreesLotGoes x)) _ _ s
  refine wpAny_noted ?_
  rw [compTurn_list]
  refine wpAny_bind (wpAny_standAt (wpAny_bind (wpAny_mono (turn n s hI) (fun r s₁ h₁ => ?_) fun _ _ x => x.elim)))
  cases r with
  | none => exact wpAny_pure h₁
  | some v =>
    refine wpAny_bind (wpAny_mono h₁ (fun _ s₀ h₂ => wpAny_bind (wpAny_mono h₂ (fun _ s₂ h₃ => wpAny_bind (wpAny_mono h₃ (fun ok s₃ h₄ => ?_) fun _ _ x => x.elim)) fun _ _ x => x.elim)) fun _ _ x => x.elim)
    cases ok with
    | false => exact wpAny_pure ⟨rfl, h₄⟩
    | true => exact wpAny_bind (wpAny_bind (wpAny_mono h₄ (fun x s₄ h₅ => wpAny_bind (wpAny_mono h₅ (fun _ s₅ h₆ => wpAny_pure (wpAny_pure ⟨rfl, h₆⟩)) fun _ _ x => x.elim)) fun _ _ x => x.elim))

/-- what a turn's test and element leave -/
abbrev TurnEnd (g : Heap) (L : Addr) (m : Str → Option Value) (s₁ : Shared) (I : Addr) (oI : Obj) (C : Addr) (oC : Obj) (D : Addr) (ys : List Value) (J : Value → List (Addr × Obj) → Prop) : Value → Shared → Prop :=
  CompEnd g L m s₁ I oI C oC D (lst ys) (fun _ => True) J

theorem my_comp {elt iter : Expr} {ifs : List Expr} {x x₂ : Str} {px px₂ tp : Pos} {tk0} {scope : Scope} {cl : List (Str × Addr)} {pos : Pos} {Q : Value → Shared → Prop} {ax : Addr} {its : Array Value} {news : List (Addr × Obj)}
    (hh : A.handled = none) (F : Fr g L s.heap m) (N : News g L s.heap news) (hl : g.IsList ax its) (hsz : its.size ≤ sizeLine)
    (hev : ∀ (Q' E' : Value → Shared → Prop), Q' (.ref ax) s → wpAny (model prog w) A (eval iter env) Q' E' s)
    (hit : ∀ (i : Nat) v, its[i]? = some v → ∃ t v₁ v₂ n, v = .ref t ∧ g.get? t = some (tupOf [v₁, v₂] n))
    (J : Nat → List Value → List (Addr × Obj) → Prop) (h0 : J 0 [] news) (hJl : ∀ i ys nw, J i ys nw → ys.length ≤ i)
    (step : ∀ (i : Nat) t v₁ v₂ n, its[i]? = some (Value.ref t) → g.get? t = some (tupOf [v₁, v₂] n) → ∀ ys nw I oI C oC D m₂ h tk, J i ys nw → NsObj oC m₂ → m₂ x = some v₁ → m₂ x₂ = some v₂ → Fr g L h m →
      News g L h ((I, oI) :: (C, oC) :: (D, lst ys) :: nw) → Off3 I C D nw → ((@Ne Nat I C) ∧ (@Ne Nat I D) ∧ (@Ne Nat C D)) →
      wpAny (model prog w) A (tests ifs (compEnvC scope cl C env)) (fun ok s₃ => if ok = true then
        wpAny (model prog w) A (eval elt (compEnvC scope cl C env)) (TurnEnd g L m { s with heap := h, toks := tk } I oI C oC D ys (fun y nw' => J (i + 1) (ys ++ [y]) nw')) (fun _ _ => False) s₃
        else TurnEnd g L m { s with heap := h, toks := tk } I oI C oC D ys (fun _ nw' => J (i + 1) ys nw') .none s₃) (fun _ _ => False) { s with heap := h, toks := tk })
    (hfin : ∀ D h tk ys nw, J its.size ys nw → Fr g L h m → News g L h ((D, lst ys) :: nw) → (∀ p ∈ nw, p.1 ≠ D) → Q (.ref D) { s with heap := h, toks := tk })
    (hclos : closureFor scope env = pure cl) (hcell : ∀ y ∈ scope.names, y.2 ≠ .cell) (hkind : scope.kind = .function)
    (hnames : ∀ y ∈ scope.names, y.2 = .local → scope.names.lookup y.1 = some .local) (hx : scope.names.lookup x = some .local) (hx₂ : scope.names.lookup x₂ = some .local) (hxx : x ≠ x₂)
    (hs : ∀ x, foldedSetIterable iter env x = pure x := by intro _; rfl) :
    wpAny (model prog w) A (eval (.ListComp elt [⟨.Tuple [.Name x px, .Name x₂ px₂] tk0 tp, iter, ifs, 0⟩] scope pos) env) Q E s := by
  rw [eval_ListComp]
  refine wpAny_comprehension_free (use := none) rfl hs hclos hkind hnames (hev _ _ ?_)
  have hls : s.heap.IsList ax its := hl.at fun o e => F.keep ax o e
  have hlt : ax < s.heap.objs.size := let ⟨_, e, _⟩ := hls; Heap.lt_size e
  refine wpAny_pyIter_list hls ?_
  -- the iterator, the list, the namespace: three new places
  generalize hi : ({ cls := .type "list_iterator", data := .fields #[.ref ax, .int 0 0] } : Obj) = oi
  refine wpAny_newObj_type (wpAny_newFunctionEnv hcell (by intro y hy; simp at hy) (fun h₁ hns₁ hsb₁ => ?_) hkind)
  dsimp only at hns₁ hsb₁ ⊢
  have sz1 : (s.heap.push oi).objs.size = s.heap.objs.size + 1 := Heap.size_push ..
  generalize hH : (s.heap.push oi).push { cls := .type "list", dict := none, data := .seq ([] : List Value).toArray } = H at hns₁ hsb₁ ⊢
  have sz2 : H.objs.size = s.heap.objs.size + 2 := by rw [← hH, Heap.size_push, sz1]
  rw [sz2] at hns₁ hsb₁ ⊢
  rw [sz1]
  obtain ⟨I, hI⟩ : ∃ I : Nat, I = s.heap.objs.size := ⟨_, rfl⟩
  rw [← hI] at hns₁ hsb₁ hlt sz1 sz2 ⊢
  have hb : ∀ b : Addr, b < I + 2 → b ≠ I + 2 := fun b h e => Nat.lt_irrefl _ (e ▸ h)
  have i01 : (I : Addr) ≠ I + 1 := Nat.ne_of_lt (Nat.lt_succ_self I)
  have i02 : (I : Addr) ≠ I + 2 := Nat.ne_of_lt (Nat.lt_add_of_pos_right (by decide))
  have i12 : (I + 1 : Addr) ≠ I + 2 := Nat.ne_of_lt (Nat.lt_succ_self (I + 1))
  have up : ∀ b o, s.heap.get? b = some o → h₁.get? b = some o := fun b o e =>
    hsb₁.extBut b o (hb b (Nat.lt_of_lt_of_le (hI ▸ Heap.lt_size e) (Nat.le_add_right _ _))) (Heap.get?_push_of_some _ (hH ▸ Heap.get?_push_of_some _ (Heap.get?_push_of_some _ e)))
  have hIo : h₁.get? I = some oi := hsb₁.extBut _ _ i02 (Heap.get?_push_of_some _ (hH ▸ Heap.get?_push_of_some _ (hI ▸ Heap.get?_push_size _ (by rw [← hi]; rfl))))
  have hDo : h₁.get? (I + 1) = some (lst []) := hsb₁.extBut _ _ i12 (Heap.get?_push_of_some _ (hH ▸ sz1 ▸ Heap.get?_push_size _ rfl))
  have hLI : @LT.lt Nat _ L I := hI ▸ F.ns.lt
  have l0 : (I : Addr) ≠ L := Nat.ne_of_gt hLI
  have l1 : (I + 1 : Addr) ≠ L := Nat.ne_of_gt (Nat.lt_succ_of_lt hLI)
  have l2 : (I + 2 : Addr) ≠ L := Nat.ne_of_gt (Nat.lt_succ_of_lt (Nat.lt_succ_of_lt hLI))
  have gnew : ∀ a, I ≤ a → g.get? a = none := fun a ha => by
    cases e : g.get? a with
    | none => rfl
    | some o => exact absurd (hI ▸ Heap.lt_size (F.keep a o e)) (Nat.not_lt.mpr ha)
  have Wk := Walks.list (prog := prog) (w := w) hh I ax (Nat.ne_of_lt hlt) its
  have st0 : h₁.IsListIter I ax 0 ∧ h₁.IsList ax its := ⟨⟨oi, hIo, by rw [← hi], by rw [← hi]; rfl⟩, hls.at fun o e => up _ _ e⟩
  have loop : ∀ s₃ : Shared, s₃ = { s with heap := h₁, toks := s.toks + ([] : List (Str × Value)).length } →
      codeAny (model prog w) A (.compLoop (.ListComp elt [⟨.Tuple [.Name x px, .Name x₂ px₂] tk0 tp, iter, ifs, 0⟩] scope pos) 0 (.ref I) (.ref (I + 1)) (compEnvC scope cl (I + 2) env))
        (compPost (model prog w) A E none Q (.ref (I + 1)) (I + 2)) s₃ := by
    rintro s₃ rfl
    refine my_compLoop
      (fun k s' => ∃ h' tk i ys m' nw, s' = { s with heap := h', toks := tk } ∧ i ≤ its.size ∧ k = its.size + 1 - i ∧ (h'.IsListIter I ax i ∧ h'.IsList ax its) ∧ Fr g L h' m ∧ h'.Ns (I + 2) m' ∧ News g L h' ((I + 1, lst ys) :: nw) ∧
        (∀ p ∈ nw, p.1 ≠ I ∧ p.1 ≠ I + 2 ∧ p.1 ≠ I + 1) ∧ J i ys nw) ?_ (its.size + 1)
      ⟨h₁, _, 0, [], _, news, rfl, Nat.zero_le _, rfl, st0, F.keeps up, hns₁, ?_, ?_, h0⟩
    · rintro k s' ⟨h', tk, i, ys, m', nw, rfl, hi', rfl, hst, F', hn', N', off, hJ⟩
      by_cases hlt' : i < its.size
      · refine Wk.item i _ _ _ hlt' hst fun v h₂ tk₂ hPv hst₂ hk₂ => ?_
        obtain ⟨t, v₁, v₂, n, rfl, ht⟩ := hit i v hPv
        refine wpAny_letOwnedTupleGo_listiter hst₂.1 ?_
        have F₂ : Fr g L h₂ m := fr_but F' hk₂ (Ne.symm l0) (gnew _ (Nat.le_refl _))
        have N₂ : News g L h₂ ((I + 1, lst ys) :: nw) := news_but N' hk₂ fun p hp => by
          rcases List.mem_cons.mp hp with rfl | hp
          · exact Ne.symm i01
          · exact (off p hp).1
        have ht₂ : IsTup h₂ t #[v₁, v₂] := ⟨_, F₂.keep _ _ ht, rfl, n, rfl⟩
        have hn₂ : h₂.Ns (I + 2) m' := hn'.at' fun o e => hk₂ _ o (by simpa using Ne.symm i02) e
        refine assign_Tuple_tuple hh ht₂ rfl rfl fun h₅ he => ?_
        have he' : ∀ b o, h₂.get? b = some o → h₅.get? b = some o := fun b o e => he b o (Nat.ne_of_lt (Heap.lt_size e)) e
        refine assignInOrder_cons (wpAny_assign_Name (wpAny_storeName_local (lookup_relabel_local hx) (hn₂.at' fun o e => he' _ o e) (fun h₆ hn₆ hs₆ => ?_) (by simp [compEnvC, relabel, hkind])))
        refine assignInOrder_cons (wpAny_assign_Name (wpAny_storeName_local (lookup_relabel_local hx₂) hn₆ (fun h₃ hn₃ hs₃ => ?_) (by simp [compEnvC, relabel, hkind])))
        refine assignInOrder_nil ?_
        have old3 : ∀ b o, b ≠ I + 2 → h₂.get? b = some o → h₃.get? b = some o := fun b o hb e => hs₃.extBut b o hb (hs₆.extBut b o hb (he' b o e))
        obtain ⟨oI, heI, hdI⟩ := hst₂.1
        obtain ⟨oC, heC, hoC⟩ := ns_obj hn₃
        have F₃ : Fr g L h₃ m := ((F₂.keeps he').change hs₆ (l2) (gnew (I + 2) (Nat.le_add_right _ _))).change hs₃ (l2) (gnew (I + 2) (Nat.le_add_right _ _))
        have N₃ : News g L h₃ ((I, oI) :: (I + 2, oC) :: (I + 1, lst ys) :: nw) := fun p hp => by
          rcases List.mem_cons.mp hp with rfl | hp
          · exact ⟨old3 _ _ (i02) heI, l0, gnew I (Nat.le_refl _)⟩
          · rcases List.mem_cons.mp hp with rfl | hp
            · exact ⟨heC, l2, gnew (I + 2) (Nat.le_add_right _ _)⟩
            · have z := N₂ p hp
              refine ⟨old3 _ _ ?_ z.1, z.2⟩
              rcases List.mem_cons.mp hp with rfl | hp
              · exact i12
              · exact (off p hp).2.1
        have fin : ∀ h₄ tk₄ nw₄ ys', Fr g L h₄ m → News g L h₄ ((I, oI) :: (I + 2, oC) :: (I + 1, lst ys') :: nw₄) → Off3 I (I + 2) (I + 1) nw₄ → J (i + 1) ys' nw₄ →
            ∃ k' < its.size + 1 - i, ∃ h' tk i ys m' nw, ({ s with heap := h₄, toks := tk₄ } : Shared) = { s with heap := h', toks := tk } ∧ i ≤ its.size ∧ k' = its.size + 1 - i ∧ (h'.IsListIter I ax i ∧ h'.IsList ax its) ∧ Fr g L h' m ∧ h'.Ns (I + 2) m' ∧ News g L h' ((I + 1, lst ys) :: nw) ∧
              (∀ p ∈ nw, p.1 ≠ I ∧ p.1 ≠ I + 2 ∧ p.1 ≠ I + 1) ∧ J i ys nw := by
          intro h₄ tk₄ nw₄ ys' F₄ N₄ off₄ hJ₄
          have zI := (N₄ _ (.head _)).1
          have zC := (N₄ _ (.tail _ (.head _))).1
          exact ⟨its.size + 1 - (i + 1), by omega, h₄, tk₄, i + 1, ys', _, nw₄, rfl, hlt', rfl, ⟨⟨oI, zI, hdI⟩, hl.at fun o e => F₄.keep ax o e⟩, F₄, hoC.ns zC, fun p hp => N₄ p (.tail _ (.tail _ hp)), off₄.mem, hJ₄⟩
        refine wpAny_mono (step i t v₁ v₂ n hPv ht ys nw I oI (I + 2) oC (I + 1) _ h₃ _ hJ hoC (by simp [hxx]) (by simp) F₃ N₃ (Off3.of off) ⟨i02, i01, Ne.symm i12⟩) (fun ok s₄ h₄ => ?_) fun _ _ x => x
        cases ok with
        | false =>
          obtain ⟨h₄, tk₄, nw₄, rfl, F₄, N₄, off₄, _, hJ₄⟩ := h₄
          exact fin _ _ _ _ F₄ N₄ off₄ hJ₄
        | true =>
          refine wpAny_mono h₄ (fun y s₅ h₅ => ?_) fun _ _ x => x
          obtain ⟨h₅, tk₅, nw₅, rfl, F₅, N₅, off₅, _, hJ₅⟩ := h₅
          have zD := (N₅ _ (.tail _ (.tail _ (.head _)))).1
          refine append_at (hsz := by show ys.toArray.size ≤ sizeLine; rw [List.size_toArray]; have := hJl _ _ _ hJ; omega) zD fun h₆ hs₆ hD₆ => ?_
          refine fin _ _ _ (ys ++ [y]) (F₅.change hs₆ (l1) (gnew (I + 1) (Nat.le_add_right _ _))) (fun p hp => ?_) off₅ hJ₅
          rcases List.mem_cons.mp hp with rfl | hp
          · exact ⟨hs₆.extBut _ _ (i01) (N₅ _ (.head _)).1, (N₅ _ (.head _)).2⟩
          · rcases List.mem_cons.mp hp with rfl | hp
            · exact ⟨hs₆.extBut _ _ (Ne.symm i12) (N₅ _ (.tail _ (.head _))).1, (N₅ _ (.tail _ (.head _))).2⟩
            · rcases List.mem_cons.mp hp with rfl | hp
              · exact ⟨hD₆.trans (congrArg some (lst_snoc ys y)), (N₅ _ (.tail _ (.tail _ (.head _)))).2⟩
              · have z := N₅ p (.tail _ (.tail _ (.tail _ hp)))
                exact ⟨hs₆.extBut _ _ (off₅.mem p hp).2.2 z.1, z.2⟩
      · obtain rfl : i = its.size := Nat.le_antisymm hi' (Nat.not_lt.mp hlt')
        refine Wk.done _ _ _ hst fun h₂ tk₂ hk₂ => ?_
        refine ⟨m', hn'.at' fun o e => hk₂ _ o (by simpa using Ne.symm i02) e, fun h'' hs'' => ?_⟩
        refine hfin _ _ _ ys nw hJ ((fr_but F' hk₂ (Ne.symm l0) (gnew _ (Nat.le_refl _))).change hs'' (l2) (gnew (I + 2) (Nat.le_add_right _ _))) (fun p hp => ?_) fun p hp => (off p hp).2.2
        have N₂ : News g L h₂ ((I + 1, lst ys) :: nw) := news_but N' hk₂ fun p hp => by
          rcases List.mem_cons.mp hp with rfl | hp
          · exact Ne.symm i01
          · exact (off p hp).1
        refine ⟨hs''.extBut _ _ ?_ (N₂ p hp).1, (N₂ p hp).2⟩
        rcases List.mem_cons.mp hp with rfl | hp
        · exact i12
        · exact (off p hp).2.1
    · intro p hp
      rcases List.mem_cons.mp hp with rfl | hp
      · exact ⟨hDo, l1, gnew (I + 1) (Nat.le_add_right _ _)⟩
      · exact ⟨up _ _ (N p hp).1, (N p hp).2⟩
    · intro p hp
      have hp' : @LT.lt Nat _ p.1 I := hI ▸ Heap.lt_size (N p hp).1
      exact ⟨Nat.ne_of_lt hp', Nat.ne_of_lt (Nat.lt_succ_of_lt (Nat.lt_succ_of_lt hp')), Nat.ne_of_lt (Nat.lt_succ_of_lt hp')⟩
  exact codeAny_compStart_list (loop _ rfl) (Wk.self 0 _ _ _ st0 (loop _ rfl))
end
end Mine
end

section
open PySem PySem.W PyProof.Rows PySem.Spec PySem.Calls PyProof.Rows.LCg
namespace Mine
section
variable {prog : Program} {w : World} {A : Around} {E : Value → Shared → Prop} {s : Shared} {g : Heap} {L : Addr} {m : Str → Option Value} {env : Env}
theorem my_compN {elt iter : Expr} {ifs : List Expr} {x x₂ : Str} {px px₂ tp : Pos} {tk0} {scope : Scope} {cl : List (Str × Addr)} {pos : Pos} {Q : Value → Shared → Prop} {ax : Addr} {its : Array Value} {news : List (Addr × Obj)}
    (J : Nat → List Value → List (Addr × Obj) → Prop) (hh : A.handled = none) (F : Fr g L s.heap m) (N : News g L s.heap news) (hl : ∀ i ys nw h, J i ys nw → Fr g L h m → News g L h nw → h.IsList ax its) (hsz : its.size ≤ sizeLine)
    (hev : ∀ (Q' E' : Value → Shared → Prop), Q' (.ref ax) s → wpAny (model prog w) A (eval iter env) Q' E' s)
    (hit : ∀ (i : Nat) v ys nw h, J i ys nw → Fr g L h m → News g L h nw → its[i]? = some v → ∃ t v₁ v₂ n, v = .ref t ∧ h.get? t = some (tupOf [v₁, v₂] n))
    (h0 : J 0 [] news) (hJl : ∀ i ys nw, J i ys nw → ys.length ≤ i)
    (step : ∀ (i : Nat) t v₁ v₂ n, its[i]? = some (Value.ref t) → ∀ ys nw I oI C oC D m₂ h tk, h.get? t = some (tupOf [v₁, v₂] n) → J i ys nw → NsObj oC m₂ → m₂ x = some v₁ → m₂ x₂ = some v₂ → Fr g L h m →
      News g L h ((I, oI) :: (C, oC) :: (D, lst ys) :: nw) → Off3 I C D nw → ((@Ne Nat I C) ∧ (@Ne Nat I D) ∧ (@Ne Nat C D)) →
      wpAny (model prog w) A (tests ifs (compEnvC scope cl C env)) (fun ok s₃ => if ok = true then
        wpAny (model prog w) A (eval elt (compEnvC scope cl C env)) (TurnEnd g L m { s with heap := h, toks := tk } I oI C oC D ys (fun y nw' => J (i + 1) (ys ++ [y]) nw')) (fun _ _ => False) s₃
        else TurnEnd g L m { s with heap := h, toks := tk } I oI C oC D ys (fun _ nw' => J (i + 1) ys nw') .none s₃) (fun _ _ => False) { s with heap := h, toks := tk })
    (hfin : ∀ D h tk ys nw, J its.size ys nw → Fr g L h m → News g L h ((D, lst ys) :: nw) → (∀ p ∈ nw, p.1 ≠ D) → Q (.ref D) { s with heap := h, toks := tk })
    (hclos : closureFor scope env = pure cl) (hcell : ∀ y ∈ scope.names, y.2 ≠ .cell) (hkind : scope.kind = .function)
    (hnames : ∀ y ∈ scope.names, y.2 = .local → scope.names.lookup y.1 = some .local) (hx : scope.names.lookup x = some .local) (hx₂ : scope.names.lookup x₂ = some .local) (hxx : x ≠ x₂)
    (hs : ∀ x, foldedSetIterable iter env x = pure x := by intro _; rfl) :
    wpAny (model prog w) A (eval (.ListComp elt [⟨.Tuple [.Name x px, .Name x₂ px₂] tk0 tp, iter, ifs, 0⟩] scope pos) env) Q E s := by
  rw [eval_ListComp]
  refine wpAny_comprehension_free (use := none) rfl hs hclos hkind hnames (hev _ _ ?_)
  have hls : s.heap.IsList ax its := hl _ _ _ _ h0 F N
  have hlt : ax < s.heap.objs.size := let ⟨_, e, _⟩ := hls; Heap.lt_size e
  refine wpAny_pyIter_list hls ?_
  -- the iterator, the list, the namespace: three new places
  generalize hi : ({ cls := .type "list_iterator", data := .fields #[.ref ax, .int 0 0] } : Obj) = oi
  refine wpAny_newObj_type (wpAny_newFunctionEnv hcell (by intro y hy; simp at hy) (fun h₁ hns₁ hsb₁ => ?_) hkind)
  dsimp only at hns₁ hsb₁ ⊢
  have sz1 : (s.heap.push oi).objs.size = s.heap.objs.size + 1 := Heap.size_push ..
  generalize hH : (s.heap.push oi).push { cls := .type "list", dict := none, data := .seq ([] : List Value).toArray } = H at hns₁ hsb₁ ⊢
  have sz2 : H.objs.size = s.heap.objs.size + 2 := by rw [← hH, Heap.size_push, sz1]
  rw [sz2] at hns₁ hsb₁ ⊢
  rw [sz1]
  obtain ⟨I, hI⟩ : ∃ I : Nat, I = s.heap.objs.size := ⟨_, rfl⟩
  rw [← hI] at hns₁ hsb₁ hlt sz1 sz2 ⊢
  have hb : ∀ b : Addr, b < I + 2 → b ≠ I + 2 := fun b h e => Nat.lt_irrefl _ (e ▸ h)
  have i01 : (I : Addr) ≠ I + 1 := Nat.ne_of_lt (Nat.lt_succ_self I)
  have i02 : (I : Addr) ≠ I + 2 := Nat.ne_of_lt (Nat.lt_add_of_pos_right (by decide))
  have i12 : (I + 1 : Addr) ≠ I + 2 := Nat.ne_of_lt (Nat.lt_succ_self (I + 1))
  have up : ∀ b o, s.heap.get? b = some o → h₁.get? b = some o := fun b o e =>
    hsb₁.extBut b o (hb b (Nat.lt_of_lt_of_le (hI ▸ Heap.lt_size e) (Nat.le_add_right _ _))) (Heap.get?_push_of_some _ (hH ▸ Heap.get?_push_of_some _ (Heap.get?_push_of_some _ e)))
  have hIo : h₁.get? I = some oi := hsb₁.extBut _ _ i02 (Heap.get?_push_of_some _ (hH ▸ Heap.get?_push_of_some _ (hI ▸ Heap.get?_push_size _ (by rw [← hi]; rfl))))
  have hDo : h₁.get? (I + 1) = some (lst []) := hsb₁.extBut _ _ i12 (Heap.get?_push_of_some _ (hH ▸ sz1 ▸ Heap.get?_push_size _ rfl))
  have hLI : @LT.lt Nat _ L I := hI ▸ F.ns.lt
  have l0 : (I : Addr) ≠ L := Nat.ne_of_gt hLI
  have l1 : (I + 1 : Addr) ≠ L := Nat.ne_of_gt (Nat.lt_succ_of_lt hLI)
  have l2 : (I + 2 : Addr) ≠ L := Nat.ne_of_gt (Nat.lt_succ_of_lt (Nat.lt_succ_of_lt hLI))
  have gnew : ∀ a, I ≤ a → g.get? a = none := fun a ha => by
    cases e : g.get? a with
    | none => rfl
    | some o => exact absurd (hI ▸ Heap.lt_size (F.keep a o e)) (Nat.not_lt.mpr ha)
  have Wk := Walks.list (prog := prog) (w := w) hh I ax (Nat.ne_of_lt hlt) its
  have st0 : h₁.IsListIter I ax 0 ∧ h₁.IsList ax its := ⟨⟨oi, hIo, by rw [← hi], by rw [← hi]; rfl⟩, hls.at fun o e => up _ _ e⟩
  have loop : ∀ s₃ : Shared, s₃ = { s with heap := h₁, toks := s.toks + ([] : List (Str × Value)).length } →
      codeAny (model prog w) A (.compLoop (.ListComp elt [⟨.Tuple [.Name x px, .Name x₂ px₂] tk0 tp, iter, ifs, 0⟩] scope pos) 0 (.ref I) (.ref (I + 1)) (compEnvC scope cl (I + 2) env))
        (compPost (model prog w) A E none Q (.ref (I + 1)) (I + 2)) s₃ := by
    rintro s₃ rfl
    refine my_compLoop
      (fun k s' => ∃ h' tk i ys m' nw, s' = { s with heap := h', toks := tk } ∧ i ≤ its.size ∧ k = its.size + 1 - i ∧ (h'.IsListIter I ax i ∧ h'.IsList ax its) ∧ Fr g L h' m ∧ h'.Ns (I + 2) m' ∧ News g L h' ((I + 1, lst ys) :: nw) ∧
        (∀ p ∈ nw, p.1 ≠ I ∧ p.1 ≠ I + 2 ∧ p.1 ≠ I + 1) ∧ J i ys nw) ?_ (its.size + 1)
      ⟨h₁, _, 0, [], _, news, rfl, Nat.zero_le _, rfl, st0, F.keeps up, hns₁, ?_, ?_, h0⟩
    · rintro k s' ⟨h', tk, i, ys, m', nw, rfl, hi', rfl, hst, F', hn', N', off, hJ⟩
      by_cases hlt' : i < its.size
      · refine Wk.item i _ _ _ hlt' hst fun v h₂ tk₂ hPv hst₂ hk₂ => ?_
        have F₂ : Fr g L h₂ m := fr_but F' hk₂ (Ne.symm l0) (gnew _ (Nat.le_refl _))
        have N₂ : News g L h₂ ((I + 1, lst ys) :: nw) := news_but N' hk₂ fun p hp => by
          rcases List.mem_cons.mp hp with rfl | hp
          · exact Ne.symm i01
          · exact (off p hp).1
        obtain ⟨t, v₁, v₂, n, rfl, ht⟩ := hit i v ys nw h₂ hJ F₂ (fun p hp => N₂ p (.tail _ hp)) hPv
        refine wpAny_letOwnedTupleGo_listiter hst₂.1 ?_
        have ht₂ : IsTup h₂ t #[v₁, v₂] := ⟨_, ht, rfl, n, rfl⟩
        have htne : t ≠ I + 2 := by
          rintro rfl
          obtain ⟨o1, o2, ho1, ho2⟩ : ∃ o1 es, h₂.get? (I + 2) = some o1 ∧ ∃ ep, o1.data = .dict es ep := let ⟨o, es, ep, e, hd, _⟩ := hn'.at' fun o e => hk₂ _ o (by simpa using Ne.symm i02) e; ⟨o, es, e, ep, hd⟩
          rw [ht] at ho1
          obtain rfl := Option.some.inj ho1
          obtain ⟨ep, hd⟩ := ho2
          cases hd
        have hn₂ : h₂.Ns (I + 2) m' := hn'.at' fun o e => hk₂ _ o (by simpa using Ne.symm i02) e
        refine assign_Tuple_tuple hh ht₂ rfl rfl fun h₅ he => ?_
        have he' : ∀ b o, h₂.get? b = some o → h₅.get? b = some o := fun b o e => he b o (Nat.ne_of_lt (Heap.lt_size e)) e
        refine assignInOrder_cons (wpAny_assign_Name (wpAny_storeName_local (lookup_relabel_local hx) (hn₂.at' fun o e => he' _ o e) (fun h₆ hn₆ hs₆ => ?_) (by simp [compEnvC, relabel, hkind])))
        refine assignInOrder_cons (wpAny_assign_Name (wpAny_storeName_local (lookup_relabel_local hx₂) hn₆ (fun h₃ hn₃ hs₃ => ?_) (by simp [compEnvC, relabel, hkind])))
        refine assignInOrder_nil ?_
        have old3 : ∀ b o, b ≠ I + 2 → h₂.get? b = some o → h₃.get? b = some o := fun b o hb e => hs₃.extBut b o hb (hs₆.extBut b o hb (he' b o e))
        obtain ⟨oI, heI, hdI⟩ := hst₂.1
        obtain ⟨oC, heC, hoC⟩ := ns_obj hn₃
        have F₃ : Fr g L h₃ m := ((F₂.keeps he').change hs₆ (l2) (gnew (I + 2) (Nat.le_add_right _ _))).change hs₃ (l2) (gnew (I + 2) (Nat.le_add_right _ _))
        have N₃ : News g L h₃ ((I, oI) :: (I + 2, oC) :: (I + 1, lst ys) :: nw) := fun p hp => by
          rcases List.mem_cons.mp hp with rfl | hp
          · exact ⟨old3 _ _ (i02) heI, l0, gnew I (Nat.le_refl _)⟩
          · rcases List.mem_cons.mp hp with rfl | hp
            · exact ⟨heC, l2, gnew (I + 2) (Nat.le_add_right _ _)⟩
            · have z := N₂ p hp
              refine ⟨old3 _ _ ?_ z.1, z.2⟩
              rcases List.mem_cons.mp hp with rfl | hp
              · exact i12
              · exact (off p hp).2.1
        have fin : ∀ h₄ tk₄ nw₄ ys', Fr g L h₄ m → News g L h₄ ((I, oI) :: (I + 2, oC) :: (I + 1, lst ys') :: nw₄) → Off3 I (I + 2) (I + 1) nw₄ → J (i + 1) ys' nw₄ →
            ∃ k' < its.size + 1 - i, ∃ h' tk i ys m' nw, ({ s with heap := h₄, toks := tk₄ } : Shared) = { s with heap := h', toks := tk } ∧ i ≤ its.size ∧ k' = its.size + 1 - i ∧ (h'.IsListIter I ax i ∧ h'.IsList ax its) ∧ Fr g L h' m ∧ h'.Ns (I + 2) m' ∧ News g L h' ((I + 1, lst ys) :: nw) ∧
              (∀ p ∈ nw, p.1 ≠ I ∧ p.1 ≠ I + 2 ∧ p.1 ≠ I + 1) ∧ J i ys nw := by
          intro h₄ tk₄ nw₄ ys' F₄ N₄ off₄ hJ₄
          have zI := (N₄ _ (.head _)).1
          have zC := (N₄ _ (.tail _ (.head _))).1
          exact ⟨its.size + 1 - (i + 1), by omega, h₄, tk₄, i + 1, ys', _, nw₄, rfl, hlt', rfl, ⟨⟨oI, zI, hdI⟩, hl _ _ _ _ hJ₄ F₄ fun p hp => N₄ p (.tail _ (.tail _ (.tail _ hp)))⟩, F₄, hoC.ns zC, fun p hp => N₄ p (.tail _ (.tail _ hp)), off₄.mem, hJ₄⟩
        refine wpAny_mono (step i t v₁ v₂ n hPv ys nw I oI (I + 2) oC (I + 1) _ h₃ _ (old3 _ _ htne ht) hJ hoC (by simp [hxx]) (by simp) F₃ N₃ (Off3.of off) ⟨i02, i01, Ne.symm i12⟩) (fun ok s₄ h₄ => ?_) fun _ _ x => x
        cases ok with
        | false =>
          obtain ⟨h₄, tk₄, nw₄, rfl, F₄, N₄, off₄, _, hJ₄⟩ := h₄
          exact fin _ _ _ _ F₄ N₄ off₄ hJ₄
        | true =>
          refine wpAny_mono h₄ (fun y s₅ h₅ => ?_) fun _ _ x => x
          obtain ⟨h₅, tk₅, nw₅, rfl, F₅, N₅, off₅, _, hJ₅⟩ := h₅
          have zD := (N₅ _ (.tail _ (.tail _ (.head _)))).1
          refine append_at (hsz := by show ys.toArray.size ≤ sizeLine; rw [List.size_toArray]; have := hJl _ _ _ hJ; omega) zD fun h₆ hs₆ hD₆ => ?_
          refine fin _ _ _ (ys ++ [y]) (F₅.change hs₆ (l1) (gnew (I + 1) (Nat.le_add_right _ _))) (fun p hp => ?_) off₅ hJ₅
          rcases List.mem_cons.mp hp with rfl | hp
          · exact ⟨hs₆.extBut _ _ (i01) (N₅ _ (.head _)).1, (N₅ _ (.head _)).2⟩
          · rcases List.mem_cons.mp hp with rfl | hp
            · exact ⟨hs₆.extBut _ _ (Ne.symm i12) (N₅ _ (.tail _ (.head _))).1, (N₅ _ (.tail _ (.head _))).2⟩
            · rcases List.mem_cons.mp hp with rfl | hp
              · exact ⟨hD₆.trans (congrArg some (lst_snoc ys y)), (N₅ _ (.tail _ (.tail _ (.head _)))).2⟩
              · have z := N₅ p (.tail _ (.tail _ (.tail _ hp)))
                exact ⟨hs₆.extBut _ _ (off₅.mem p hp).2.2 z.1, z.2⟩
      · obtain rfl : i = its.size := Nat.le_antisymm hi' (Nat.not_lt.mp hlt')
        refine Wk.done _ _ _ hst fun h₂ tk₂ hk₂ => ?_
        refine ⟨m', hn'.at' fun o e => hk₂ _ o (by simpa using Ne.symm i02) e, fun h'' hs'' => ?_⟩
        refine hfin _ _ _ ys nw hJ ((fr_but F' hk₂ (Ne.symm l0) (gnew _ (Nat.le_refl _))).change hs'' (l2) (gnew (I + 2) (Nat.le_add_right _ _))) (fun p hp => ?_) fun p hp => (off p hp).2.2
        have N₂ : News g L h₂ ((I + 1, lst ys) :: nw) := news_but N' hk₂ fun p hp => by
          rcases List.mem_cons.mp hp with rfl | hp
          · exact Ne.symm i01
          · exact (off p hp).1
        refine ⟨hs''.extBut _ _ ?_ (N₂ p hp).1, (N₂ p hp).2⟩
        rcases List.mem_cons.mp hp with rfl | hp
        · exact i12
        · exact (off p hp).2.1
    · intro p hp
      rcases List.mem_cons.mp hp with rfl | hp
      · exact ⟨hDo, l1, gnew (I + 1) (Nat.le_add_right _ _)⟩
      · exact ⟨up _ _ (N p hp).1, (N p hp).2⟩
    · intro p hp
      have hp' : @LT.lt Nat _ p.1 I := hI ▸ Heap.lt_size (N p hp).1
      exact ⟨Nat.ne_of_lt hp', Nat.ne_of_lt (Nat.lt_succ_of_lt (Nat.lt_succ_of_lt hp')), Nat.ne_of_lt (Nat.lt_succ_of_lt hp')⟩
  exact codeAny_compStart_list (loop _ rfl) (Wk.self 0 _ _ _ st0 (loop _ rfl))
end
end Mine
end

section
open PySem PySem.W PyProof.Rows PySem.Spec PySem.Calls
namespace Mine
section
variable {prog : Program} {w : World} {A : Around} {E : Value → Shared → Prop} {s : Shared} {g : Heap} {L D a : Addr} {m : Str → Option Value} {news : List (Addr × Obj)} {gg : Obj → List (Addr × Obj)} {ep : Nat} {k : Key}

theorem my_dict1 {env : Env} {keys : List (Option Expr)} {values : List Expr} {pos : Pos} {Q : Value → Shared → Prop} (F : Fr g L s.heap m) (N : News g L s.heap news) (hbig : g.NoLimit)
    (hall : keys.all (·.isSome) = true) (hl : keys.length = values.length) (h0 : keys ≠ []) (hlen : keys.length ≤ 15)
    (h : ∀ D h', Fr g L h' m → News g L h' ((D, dictObj (ents prog w []) 0) :: news) → (D == sysModules) = false → (∀ p ∈ news, p.1 < D) →
      wpAny (model prog w) A (evalPairs (pairTrees keys values env pos)) (fun vs s₁ => Hold (wpAny (model prog w) A (storeAll D vs) (fun _ s₂ => Q (.ref D) s₂) E s₁)) E { s with heap := h' }) :
    wpAny (model prog w) A (eval (.Dict keys values pos) env) Q E s := by
  refine wpAny_Dict_any hall hl h0 hlen ?_
  refine h _ _ (F.push _) ?_ (F.notModules (modules_low hbig)) (fun p hp => Heap.lt_size (N p hp).1)
  intro p hp
  rcases List.mem_cons.mp hp with rfl | hp
  · exact ⟨Heap.get?_push_size _ rfl, Nat.ne_of_gt F.ns.lt, next_is_new F⟩
  · exact ⟨Heap.get?_push_of_some _ (N p hp).1, (N p hp).2⟩

theorem my_store1 {v : Int} {tk : Tok} {Q : PUnit → Shared → Prop} (hu : A.units + 1 < cLine) (F : Fr g L s.heap m) (N : News g L s.heap news) (U : UpdF D (dictObj (ents prog w []) ep) news gg) (hkey : KeyAt (fun a o => (a, o) ∈ news) k a)
    (h : ∀ h' ep' tk', Fr g L h' m → News g L h' (gg (dictObj (ents prog w [(k, v, a, tk)]) ep')) → Q PUnit.unit { s with heap := h', toks := tk' }) : wpAny (model prog w) A (storeAll D [(.ref a, .int v tk)]) Q E s := by
  obtain ⟨pre, post, rfl, hg, h1, h2⟩ := U.split
  have hm := N (D, dictObj (ents prog w []) ep) (List.mem_append_right _ (.head _))
  have hD := dictOfH_of (prog := prog) (w := w) (r := []) hm.1 List.nodup_nil (fun x hx => nomatch hx)
  have hk : IsTupleKey (mixK prog w) s.heap (enc k) a := hkey.tup fun a o q => (N _ q).1
  unfold storeAll
  simp only [List.forIn_cons, List.forIn_nil]
  refine wpAny_bind (wpAny_bind (wpAny_dictSet_heap (knd := tupleKind (mixK prog w)) (k := enc k) (xs := xsOf []) (show A.units < cLine from by omega) hk hD (fun h' hd hs => ?_) (by rw [sizeLine_eq]; decide)))
  rw [stored_xs (r := []) (by simp)] at hd
  obtain ⟨ep', ho'⟩ := obj_of_dictOfH hd
  refine wpAny_pure (wpAny_pure ?_)
  exact h h' ep' _ (F.change hs hm.2.1 hm.2.2) (hg _ ▸ N.setAt h1 h2 hs ho')
end
end Mine
end

section
open PySem PySem.W PyProof.Rows PySem.Spec PySem.Calls
namespace Mine

def kd (c : Clr) : PyData := .tuple [.tuple [.str (S c.1.1), .int c.1.2.1, .str (S c.1.2.2)], .int c.2]
theorem reads_clr {W : Know} {h : Heap} {c : Clr} {p : Addr} (hW : ∀ a o, W a o → h.get? a = some o) (x : ClrAt W c p) : Reads h (.ref p) (kd c) [] := by
  obtain ⟨b, tk, n, hp, t1, t2, t3, n2, hb⟩ := x
  have hb' : Reads h (.ref b) (.tuple [.str (S c.1.1), .int c.1.2.1, .str (S c.1.2.2)]) [] := reads_tuple_at (hW _ _ hb) rfl rfl (.cons (.str _ t1) (.cons (.int _ t2) (.cons (.str _ t3) .nil)))
  exact reads_tuple_at (hW _ _ hp) rfl rfl (.cons (as := []) hb' (.cons (.int _ tk) .nil))
theorem reads_all {W : Know} {h : Heap} (hW : ∀ a o, W a o → h.get? a = some o) : ∀ (t : List Clr) (vs : List Value), vs.length = t.length → (∀ (i : Nat) (c : Clr), t[i]? = some c → ∃ p : Addr, vs[i]? = some (Value.ref p) ∧ ClrAt W c p) → ReadsAll h vs (t.map kd) []
  | [], [], _, _ => .nil
  | [], _ :: _, e, _ => nomatch e
  | _ :: _, [], e, _ => nomatch e
  | c :: t, v :: vs, e, k => by
    obtain ⟨p, hp, hx⟩ := k 0 c rfl
    obtain rfl : v = .ref p := by simpa using hp
    exact .cons (as := []) (reads_clr hW hx) (reads_all hW t vs (by simpa using e) fun i c' hc => k (i + 1) c' (by simpa using hc))
theorem reads_cs {W : Know} {h : Heap} {t : List Clr} {a : Addr} (hW : ∀ a o, W a o → h.get? a = some o) (x : CsAt W t a) : Reads h (.ref a) (.list (t.map kd)) [a] := by
  obtain ⟨vs, n, hl, hlen, k⟩ := x
  exact reads_list_at (hW _ _ hl) rfl rfl (reads_all hW t vs hlen k)
def OkT (t : List Clr) : Prop := ∀ c ∈ t, (∀ d ∈ c.1.1, d < 0x110000) ∧ ∀ d ∈ c.1.2.2, d < 0x110000
theorem lay_all : ∀ {t : List Clr}, OkT t → PyData.canLayAll0 (t.map kd) = true ∧ PyData.depthAll (t.map kd) ≤ 2
  | [], _ => by simp [PyData.canLayAll0, PyData.depthAll]
  | c :: t, h => by
    obtain ⟨h1, h2⟩ := lay_all (t := t) fun x hx => h x (.tail _ hx)
    obtain ⟨h3, h4⟩ := h c (.head _)
    constructor
    · simp [PyData.canLayAll0, kd, PyData.canLay0, strOk_S h3, strOk_S h4, h1]
    · simp only [List.map_cons, PyData.depthAll, kd, PyData.depth]; omega
theorem shaped_cs {t : List Clr} (h : OkT t) : SeqAt.shaped (.list (t.map kd)) = true := by
  obtain ⟨h1, h2⟩ := lay_all h
  simp only [SeqAt.shaped, PyData.canLay0, PyData.depth, h1, Bool.true_and]; exact decide_eq_true (show _ + 1 ≤ 64 by omega)
theorem my_ne_cs {prog : Program} {w : World} {A : Around} {E : Value → Shared → Prop} {s : Shared} {W : Know} {Q : Value → Shared → Prop} {t : List Clr} {a b : Addr} (hW : ∀ a o, W a o → s.heap.get? a = some o) (ha : CsAt W t a) (hb : CsAt W t b) (ho : OkT t) (hu : A.units + 64 < cLine)
    (h : Q (.bool false) s) : wpAny (model prog w) A (compareOp .NotEq (.ref a) (.ref b)) Q E s := by
  refine ne_dataH (reads_cs hW ha) (reads_cs hW hb) (shaped_cs ho) (shaped_cs ho) hu ?_
  rw [SeqAt.eqv_refl _ (SeqAt.canLay_of_shaped (shaped_cs ho))]
  exact h
theorem okT_addTo {t : Tab} {k : Key} {v : Int} (h : OkT t) (hk : (∀ d ∈ k.1, d < 0x110000) ∧ ∀ d ∈ k.2.2, d < 0x110000) : OkT (addTo t k v) := by
  intro c hc
  unfold addTo at hc
  split at hc
  · obtain ⟨x, hx, rfl⟩ := List.mem_map.mp hc
    rw [bump_key]; exact h x hx
  · rcases List.mem_append.mp hc with hc | hc
    · exact h c hc
    · rw [List.mem_singleton.mp hc]; exact hk
theorem okT_merge : ∀ {s t : Tab}, OkT t → OkT s → OkT (merge t s)
  | [], _, h, _ => h
  | c :: s, t, h, h2 => okT_merge (s := s) (t := addTo t c.1 c.2) (okT_addTo h (h2 c (.head _))) fun x hx => h2 x (.tail _ hx)
theorem okT_tab {cs : List Clr} (h : ∀ c ∈ cs, OkC c) : OkT (tab cs) := okT_merge (fun _ q => nomatch q) fun c hc => (h c hc).small
end Mine
end

section
open PySem PySem.W PyProof.Rows PySem.Spec PySem.Calls
namespace Mine
local macro_rules | `(tactic| walk_at "mine.enter") => `(tactic| (refine wpAny_call ?_; refine' enter ?k1 ?k2 ?k3 ?k5 ?kA ?kF ?kK ?k6 ?k7 ?k8 ?k9 ?kB ?_ ?c2 ?c3 ?c4 ?c5; (case kA => exact rfl); (case kF => exact rfl); (case kK => assumption); (case k1 => k_asm); (case k2 => k_asm); (case k3 => k_asm); (case k5 => k_asm); (case k6 => k_is); (case k7 => k_is); (case k8 => ktr_room); (case k9 => exact BindsTo.of_eq rfl); (case c5 => decide); (case kB => exact locs rfl); (case c2 => exact rfl); (case c3 => exact rfl); (case c4 => exact rfl); k_whole))

def spPre (_ : Know) (vs : List Value) (d : List Nat × List (List Nat)) : Prop := ∃ t, vs = [.str (S (jn [10, 10] (d.1 :: d.2))) t] ∧ (∀ q ∈ d.1 :: d.2, OkS q) ∧ (jn [10, 10] (d.1 :: d.2)).length ≤ 5000
def spPost (W : Know) (r : Value) (d : List Nat × List (List Nat)) : Prop := ∃ a n t1 t2, r = .ref a ∧ W a { cls := .type "tuple", data := .seq #[.str (S d.1) t1, .str (S (jn [10, 10] d.2)) t2] n }

section
local macro_rules | `(tactic| walk_at "call builtin:str.strip") => `(tactic| (refine KXw.strip (by assumption) (by assumption) ?_; intro _ _))
local macro_rules | `(tactic| walk_at "call builtin:str.split") => `(tactic| refine hold ?_)
local macro_rules | `(tactic| walk_at "call builtin:len") => `(tactic| ((with_reducible show wpAny _ _ (call (Value.builtin "len") [Value.ref _]) _ _ _); refine my_len (by k_asm) (by k_dflt k_mem) (by simp only [List.length_cons, List.length_map, List.length_nil]; rfl) (by omega) ?_))
local macro_rules | `(tactic| walk_at "subscriptTail Name Slice ref ref") => `(tactic| (k_dflt (refine' kmk_slice_lit ?F ?N ?l ?p ?q ?e ?_ ?s ?t ?z; (case F => k_asm); (case N => k_asm); (case l => kmk_list); (case p => kmk_part); (case q => kmk_part); (case e => first | exact pick_from _ (by decide) | exact pick_upto _ (by decide)); (case s => with_unfolding_all rfl); (case t => kmk_pure); (case z => (simp only [List.size_toArray, List.length_cons, List.length_map, sizeLine_eq]; omega))); intro D' h' F' N' l1; clear l1))
local macro_rules | `(tactic| walk_at "call builtin:str.join") => `(tactic| refine hold ?_)

set_option maxRecDepth 100000 in
set_option maxHeartbeats 8000000 in
theorem tsplit (w : World) (loose : List Str) (mean : ExcName → Option Value) (mg mb : Str → Option Value) : 
   PySem.Challenge.rw_mq0071_01.row.prog = PySem.Challenge.rw_mq0071_01.row.prog ∧ Mine.hd.heap_39 w.params = Mine.hd.heap_39 w.params ∧ Says w loose mean mg mb 21 1 spPre spPost := by
  k_fill
  refine ⟨rfl, rfl, ?_⟩
  unfold Says
  intro d dp un gd cn cs a ccd cl outer A₀ base h₀ L m s vs W Q E B F X T hk hW hpre hd hu hret
  obtain ⟨t, rfl, hok, hlen⟩ := hpre
  obtain ⟨p, ps⟩ := d
  dsimp only at hok hlen
  have hst := strip_page hok
  have hspl := split_rows (by simp) hok
  have hsz : (S (jn [10, 10] (p :: ps))).length ≤ sizeLine := by rw [S_length, sizeLine_eq]; omega
  have hsz2 : (S (jn [10, 10] (p :: ps))).length + 2 ≤ sizeLine := by rw [S_length, sizeLine_eq]; omega
  k_dflt (walk_at "mine.enter")
  intro L' h1 hL' F' N' B' X' T'
  dsimp only
  k_fold
  w_strict k_steps
  refine Hold.mk ?_
  refine KSpl.split1 (by k_asm) (by k_asm) (by decide) ?_ hsz2
  intro D' l' h' k' e' a' F' N' l1
  rw [hspl] at e'
  cases ps with
  | nil =>
    simp only [rows, List.map_cons, List.map_nil] at e'
    kspl_open e'
    simp only [strValues, List.map_cons, List.map_nil] at N' a'
    clear l1 a'
    w_strict k_steps
    refine hret _ _ _ _ (Fr.keep (by k_asm)) (news_new (by k_asm)) ?_
    exact ⟨_, _, _, _, rfl, .inr (by k_mem)⟩
  | cons q r =>
    simp only [rows, List.map_cons, List.map_nil] at e'
    obtain ⟨t0, l0, r0, e0⟩ := KSpl.cons_of e'
    subst r0
    obtain ⟨t1, l2, r1, e1⟩ := KSpl.cons_of e0
    subst r1
    have hl3 : (jn [10, 10] (p :: q :: r)).length = p.length + 2 + (jn [10, 10] (q :: r)).length := by rw [jn_cons _ _ (by simp)]; simp only [List.length_append, List.length_cons, List.length_nil]
    have hl2 : l2.length < 900000 := by
      have h1 := congrArg List.length e1
      simp only [List.length_map] at h1
      have h2 := len_jn_ge (sep := [10]) (by decide) (ps := rows (q :: r))
      rw [jn_rows] at h2
      omega
    simp only [strValues, List.map_cons] at N' a'
    clear l1 a'
    w_strict k_steps
    · exfalso; omega
    refine Hold.mk ?_
    refine my_join (sep := [10]) (ps := rows (q :: r)) (l := l2) (by k_asm) nl_S (by k_dflt k_mem) e1 (by rw [jn_rows]; simp only [List.length_cons, List.length_nil]; omega) ?_
    intro t' k'
    rw [jn_rows]
    w_strict k_steps
    refine hret _ _ _ _ (Fr.keep (by k_asm)) (news_new (by k_asm)) ?_
    exact ⟨_, _, _, _, rfl, .inr (by k_mem)⟩
end
end Mine
end

section
open PySem PySem.W PyProof.Rows PySem.Spec PySem.Calls
namespace Mine

def rpPre (_ : Know) (vs : List Value) (l : List Nat) : Prop := ∃ t t1 t2 t3 t4 t5 t6 t7 t8 t9 t10, vs = [.str (S l) t, .str (S [58]) t1, .str (S [10, 10]) t2, .str (S [40]) t3, .str (S [10, 10]) t4, .str (S [41]) t5, .str (S [10, 10]) t6,
    .str (S [123]) t7, .str (S [126, 10, 10, 48, 10, 10, 60]) t8, .str (S [125]) t9, .str (S [62, 10, 10]) t10] ∧ l.length ≤ 400
def rpPost (_ : Know) (r : Value) (l : List Nat) : Prop := ∃ t, r = .str (S (sg l)) t

section
local macro_rules | `(tactic| walk_at "mine.enter_rest") => `(tactic| (refine wpAny_call ?_; refine' enter_rest ?k1 ?k2 ?k3 ?k5 ?kA ?kF ?kK ?k6 ?k7 ?k8 ?kV ?kP ?kG ?kB ?_ ?c2 ?c3 ?c4 ?c5; (case kA => exact rfl); (case kF => exact rfl); (case kK => assumption); (case k1 => k_asm); (case k2 => k_asm); (case k3 => k_asm); (case k5 => k_asm); (case k6 => k_is); (case k7 => k_is); (case k8 => ktr_room); (case kV => kl_lit); (case kP => exact rfl); (case kG => exact fun _ => rfl); (case kB => exact fun _ => locs rfl); (case c5 => decide); (case c2 => exact rfl); (case c3 => exact rfl); (case c4 => exact rfl); k_whole))
local macro_rules | `(tactic| walk_at "call builtin:str.split") => `(tactic| (refine KSpl.split1 (by k_asm) (by k_asm) (by first | rfl | decide) ?_ (by assumption); intro D' l' h' k' e' a' F' N' l1; clear a' l1))
local macro_rules | `(tactic| walk_at "call builtin:str.join") => `(tactic| (refine my_join_sub (by k_asm) (by k_dflt k_mem) (by assumption) (by assumption) ?_; intro t9 k9))
local macro_rules | `(tactic| walk_at "subscriptTail Name Slice ref ref") => `(tactic| (k_dflt (refine' my_tup_from2 ?F ?N ?l ?p ?q ?_ ?s ?t; (case F => k_asm); (case N => k_asm); (case l => k_mem); (case p => exact Nat.le_of_ble_eq_true rfl); (case q => exact Nat.le_of_ble_eq_true rfl); (case s => with_unfolding_all rfl); (case t => kmk_pure)); intro D' h' F' N'; (simp only [List.drop_succ_cons, List.drop_zero] at N')))

set_option maxRecDepth 100000 in
set_option maxHeartbeats 8000000 in
theorem treplace (w : World) (loose : List Str) (mean : ExcName → Option Value) (mg mb : Str → Option Value) : 
   PySem.Challenge.rw_mq0071_01.row.prog = PySem.Challenge.rw_mq0071_01.row.prog ∧ Mine.hd.heap_39 w.params = Mine.hd.heap_39 w.params ∧ Says w loose mean mg mb 28 1 rpPre rpPost := by
  k_fill
  refine ⟨rfl, rfl, ?_⟩
  unfold Says
  intro d dp un gd cn cs a ccd cl outer A₀ base h₀ L m s vs W Q E B F X T hk hW hpre hd hu hret
  obtain ⟨t, t1, t2, t3, t4, t5, t6, t7, t8, t9, t10, rfl, hlen⟩ := hpre
  have e1 := sub_len 58 [10, 10] 2 (by decide) (by decide) d
  have e2 := sub_len 40 [10, 10] 2 (by decide) (by decide) (sub 58 [10, 10] d)
  have e3 := sub_len 41 [10, 10] 2 (by decide) (by decide) (sub 40 [10, 10] (sub 58 [10, 10] d))
  have e4 := sub_len 123 [126, 10, 10, 48, 10, 10, 60] 7 (by decide) (by decide) (sub 41 [10, 10] (sub 40 [10, 10] (sub 58 [10, 10] d)))
  have e5 := sub_len 125 [62, 10, 10] 3 (by decide) (by decide) (sub 123 [126, 10, 10, 48, 10, 10, 60] (sub 41 [10, 10] (sub 40 [10, 10] (sub 58 [10, 10] d))))
  have z0 : (S d).length + 2 ≤ sizeLine := by rw [S_length, sizeLine_eq]; omega
  have z1 : (S (sub 58 [10, 10] d)).length + 2 ≤ sizeLine := by rw [S_length, sizeLine_eq]; omega
  have z2 : (S (sub 40 [10, 10] (sub 58 [10, 10] d))).length + 2 ≤ sizeLine := by rw [S_length, sizeLine_eq]; omega
  have z3 : (S (sub 41 [10, 10] (sub 40 [10, 10] (sub 58 [10, 10] d)))).length + 2 ≤ sizeLine := by rw [S_length, sizeLine_eq]; omega
  have z4 : (S (sub 123 [126, 10, 10, 48, 10, 10, 60] (sub 41 [10, 10] (sub 40 [10, 10] (sub 58 [10, 10] d))))).length + 2 ≤ sizeLine := by rw [S_length, sizeLine_eq]; omega
  have y1 : (sub 58 [10, 10] d).length + [10, 10].length ≤ 16000000 := by simp only [List.length_cons, List.length_nil]; omega
  have y2 : (sub 40 [10, 10] (sub 58 [10, 10] d)).length + [10, 10].length ≤ 16000000 := by simp only [List.length_cons, List.length_nil]; omega
  have y3 : (sub 41 [10, 10] (sub 40 [10, 10] (sub 58 [10, 10] d))).length + [10, 10].length ≤ 16000000 := by simp only [List.length_cons, List.length_nil]; omega
  have y4 : (sub 123 [126, 10, 10, 48, 10, 10, 60] (sub 41 [10, 10] (sub 40 [10, 10] (sub 58 [10, 10] d)))).length + [126, 10, 10, 48, 10, 10, 60].length ≤ 16000000 := by simp only [List.length_cons, List.length_nil]; omega
  have y5 : (sub 125 [62, 10, 10] (sub 123 [126, 10, 10, 48, 10, 10, 60] (sub 41 [10, 10] (sub 40 [10, 10] (sub 58 [10, 10] d))))).length + [62, 10, 10].length ≤ 16000000 := by simp only [List.length_cons, List.length_nil]; omega
  clear e1 e2 e3 e4 e5
  k_dflt (walk_at "mine.enter_rest")
  intro D L' h1 F' N' B' X' T'
  dsimp only
  k_fold
  w_strict k_steps
  dsimp only
  k_unfold
  dsimp only
  exact hret _ [] _ _ (Fr.keep (by k_asm)) (fun q hq => nomatch hq) ⟨_, rfl⟩
end
end Mine
end

section
open PySem PySem.W PyProof.Rows PySem.Spec PySem.Calls
namespace Mine
local macro_rules | `(tactic| walk_at "mine.enter") => `(tactic| (refine wpAny_call ?_; refine' enter ?k1 ?k2 ?k3 ?k5 ?kA ?kF ?kK ?k6 ?k7 ?k8 ?k9 ?kB ?_ ?c2 ?c3 ?c4 ?c5; (case kA => exact rfl); (case kF => exact rfl); (case kK => assumption); (case k1 => k_asm); (case k2 => k_asm); (case k3 => k_asm); (case k5 => k_asm); (case k6 => k_is); (case k7 => k_is); (case k8 => ktr_room); (case k9 => exact BindsTo.of_eq rfl); (case c5 => decide); (case kB => exact locs rfl); (case c2 => exact rfl); (case c3 => exact rfl); (case c4 => exact rfl); k_whole))

def fsPre (W : Know) (vs : List Value) (c : Clr) : Prop := ∃ a, vs = [.ref a] ∧ KeyAt W c.1 a ∧ OkC c
def fsPost (_ : Know) (r : Value) (c : Clr) : Prop := ∃ t, r = .str (S (told c.1)) t

theorem line_text {f g : List Nat} {l : Int} {x : Str} (hx : x = S (tx l)) (ht : isTop (f, l, g) = false) : S f ++ Str.ofString ":" ++ x ++ Str.ofString "(" ++ S g ++ Str.ofString ")" = S (told (f, l, g)) := by
  unfold told
  rw [ht, hx, show Str.ofString ":" = S [58] from by decide +kernel, show Str.ofString "(" = S [40] from by decide +kernel, show Str.ofString ")" = S [41] from by decide +kernel]
  simp only [S_append, Bool.false_eq_true, if_false]
theorem top_text (g : List Nat) : Str.ofString "{" ++ S ((g.drop 1).take (g.length - 2)) ++ Str.ofString "}" = S (told ([126], 0, g)) := by
  unfold told
  rw [show isTop ([126], 0, g) = true from rfl, show Str.ofString "{" = S [123] from by decide +kernel, show Str.ofString "}" = S [125] from by decide +kernel]
  simp only [S_append, if_true]
section
variable {prog : Program} {w : World} {A : Around} {E : Value → Shared → Prop} {s : Shared} {x y : Str} {t u : Tok} {Q : Value → Shared → Prop}
theorem my_sw (e : Txt.startswith x y = true) (hq : Q (.bool true) s) : wpAny (model prog w) A (call (.builtin "str.startswith") [.str x t, .str y u]) Q E s := SC.startswith (by rw [e]; exact hq)
theorem my_ew (e : Txt.endswith x y = true) (hq : Q (.bool true) s) : wpAny (model prog w) A (call (.builtin "str.endswith") [.str x t, .str y u]) Q E s := SC.endswith (by rw [e]; exact hq)
end

section
local macro_rules | `(tactic| walk_at "subscriptTail Name Slice ref ref") => `(tactic| (k_dflt (refine' my_tup_upto2 ?F ?N ?l ?_ ?s ?t; (case F => k_asm); (case N => k_asm); (case l => exact Fr.tup (by k_asm) (by k_asm)); (case s => with_unfolding_all rfl); (case t => kmk_pure)); intro D' h' F' N'))
local macro_rules | `(tactic| walk_at "compareOp Eq ref ref") => `(tactic| refine hold ?_)
local macro_rules | `(tactic| walk_at "binaryOp Mod str ref") => `(tactic| refine hold ?_)
local macro_rules | `(tactic| walk_at "binaryOp Mod str str") => `(tactic| ((refine' KPc.mod_str (T := fun z => Str.ofString "{" ++ z ++ Str.ofString "}") ?kF ?kl ?km ?_; (case kF => kpc_eq); (case kl => omega); (case km => exact fun z hz => meets_br z hz)); intro _ _))
local macro_rules | `(tactic| walk_at "call builtin:str.startswith") => `(tactic| refine my_sw (by assumption) ?_)
local macro_rules | `(tactic| walk_at "call builtin:str.endswith") => `(tactic| refine my_ew (by assumption) ?_)

set_option maxRecDepth 100000 in
set_option maxHeartbeats 8000000 in
theorem tfunc (w : World) (loose : List Str) (mean : ExcName → Option Value) (mg mb : Str → Option Value) : 
   PySem.Challenge.rw_mq0071_01.row.prog = PySem.Challenge.rw_mq0071_01.row.prog ∧ Mine.hd.heap_39 w.params = Mine.hd.heap_39 w.params ∧ Says w loose mean mg mb 35 1 fsPre fsPost := by
  k_fill
  refine ⟨rfl, rfl, ?_⟩
  unfold Says
  intro d dp un gd cn cs a ccd cl outer A₀ base h₀ L m s vs W Q E B F X T hk hW hpre hd hu hret
  obtain ⟨b, rfl, ⟨t1, t2, t3, n, hb⟩, hok⟩ := hpre
  obtain ⟨⟨f, l, g⟩, v⟩ := d
  dsimp only at hb
  have hT : IsTup s.heap b #[.str (S f) t1, .int l t2, .str (S g) t3] := ⟨_, hW _ _ hb, rfl, n, rfl⟩
  k_dflt (walk_at "mine.enter")
  intro L' h1 hL' F' N' B' X' T'
  dsimp only
  k_fold
  w_strict k_steps
  refine Hold.mk ?_
  refine my_eq2 (by k_asm) (by k_dflt k_mem) (by k_dflt k_mem) (strOk_S hok.small.1) (by decide +kernel) (by ktr_units) (top_eq (f, l, g)) ?_
  have hlf : (S f).length ≤ 1000000 := by rw [S_length]; have := hok.short.1; dsimp only at this; omega
  have hlg : (S g).length ≤ 1000000 := by rw [S_length]; have := hok.short.2; dsimp only at this; omega
  cases ht : isTop (f, l, g) with
  | false =>
    w_strict k_steps
    refine Hold.mk ?_
    have hT2 := Fr.tup (by k_asm) hT
    have hl := hok.line
    dsimp only at hl
    rcases hl with rfl | rfl | rfl
    · obtain ⟨T0, eT, hm⟩ := meets_line0 hlf hlg (b := b) (t1 := t1) (t2 := t2) (t3 := t3)
      refine mod_tupleH hT2 fmt_eq hm ?_
      intro t' k'
      repeat (first | k_unfold | dsimp only)
      exact hret _ [] _ _ (Fr.keep (by k_asm)) (fun q hq => nomatch hq) ⟨t', by rw [eT, line_text (l := 0) (by decide +kernel) ht]⟩
    · obtain ⟨T0, eT, hm⟩ := meets_line12 hlf hlg (b := b) (t1 := t1) (t2 := t2) (t3 := t3)
      refine mod_tupleH hT2 fmt_eq hm ?_
      intro t' k'
      repeat (first | k_unfold | dsimp only)
      exact hret _ [] _ _ (Fr.keep (by k_asm)) (fun q hq => nomatch hq) ⟨t', by rw [eT, line_text (l := 12) (by decide +kernel) ht]⟩
    · obtain ⟨T0, eT, hm⟩ := meets_lineN hlf hlg (b := b) (t1 := t1) (t2 := t2) (t3 := t3)
      refine mod_tupleH hT2 fmt_eq hm ?_
      intro t' k'
      repeat (first | k_unfold | dsimp only)
      exact hret _ [] _ _ (Fr.keep (by k_asm)) (fun q hq => nomatch hq) ⟨t', by rw [eT, line_text (l := -1) (by decide +kernel) ht]⟩
  | true =>
    obtain ⟨e1, e2⟩ := isTop_iff.mp ht
    dsimp only at e1 e2
    subst e1 e2
    obtain ⟨n', hn'⟩ := hok.ang rfl rfl
    dsimp only at hn'
    have hsw : Txt.startswith (S g) (Str.ofString "<") = true := by rw [hn', lt_S]; exact sw_S
    have hew : Txt.endswith (S g) (Str.ofString ">") = true := by rw [hn', gt_S]; exact ew_S
    have hg2 : 2 ≤ g.length := by rw [hn']; simp only [List.length_append, List.length_cons, List.length_nil]; omega
    have hsl := slice_inner hg2
    have hls : (S ((g.drop 1).take (g.length - 2))).length ≤ 1000000 := by
      rw [S_length] at hlg ⊢
      simp only [List.length_take, List.length_drop]; omega
    have hlz : (S g).length ≤ sizeLine := by rw [sizeLine_eq]; omega
    w_strict k_steps
    repeat (first | k_unfold | dsimp only)
    exact hret _ [] _ _ (Fr.keep (by k_asm)) (fun q hq => nomatch hq) ⟨_, by rw [hsl, top_text g]⟩
end
end Mine
end

section
open PySem PySem.W PyProof.Rows PySem.Spec PySem.Calls
namespace Mine
local macro_rules | `(tactic| walk_at "mine.enter") => `(tactic| (refine wpAny_call ?_; refine' enter ?k1 ?k2 ?k3 ?k5 ?kA ?kF ?kK ?k6 ?k7 ?k8 ?k9 ?kB ?_ ?c2 ?c3 ?c4 ?c5; (case kA => exact rfl); (case kF => exact rfl); (case kK => assumption); (case k1 => k_asm); (case k2 => k_asm); (case k3 => k_asm); (case k5 => k_asm); (case k6 => k_is); (case k7 => k_is); (case k8 => ktr_room); (case k9 => exact BindsTo.of_eq rfl); (case c5 => decide); (case kB => exact locs rfl); (case c2 => exact rfl); (case c3 => exact rfl); (case c4 => exact rfl); k_whole))

def acPre (w : World) (W : Know) (vs : List Value) (d : Tab × Tab) : Prop := ∃ a b, vs = [.ref a, .ref b] ∧ TabAt PySem.Challenge.rw_mq0071_01.row.prog w W d.1 a ∧ TabAt PySem.Challenge.rw_mq0071_01.row.prog w W d.2 b ∧ d.1.length + d.2.length ≤ 1000
def acPost (w : World) (W : Know) (r : Value) (d : Tab × Tab) : Prop := ∃ a, r = .ref a ∧ TabAt PySem.Challenge.rw_mq0071_01.row.prog w W (merge d.1 d.2) a

theorem put_len (r : List Rw) (k : Key) (a : Addr) (v : Int) (tk : Tok) : (put r k a v tk).length ≤ r.length + 1 := by
  unfold put
  split
  · rw [List.length_map]; omega
  · simp
theorem take_put {r : List Rw} {i : Nat} {x : Rw} (hn : (r.map (·.1)).Nodup) (hx : r[i]? = some x) : put (r.take i) x.1 x.2.2.1 x.2.1 x.2.2.2 = r.take (i + 1) := by
  have hnot : x.1 ∉ (r.take i).map (·.1) := by
    have e : r.take (i + 1) = r.take i ++ [x] := by rw [List.take_add_one, hx]; rfl
    have h1 : ((r.take (i + 1)).map (·.1)).Nodup := by rw [List.map_take]; exact hn.sublist (List.take_sublist _ _)
    rw [e, List.map_append, List.nodup_append] at h1
    exact fun q => h1.2.2 _ q x.1 (by simp) rfl
  unfold put
  rw [if_neg hnot, List.take_add_one, hx]
  rfl

section
local macro_rules | `(tactic| walk_at "exec For") => `(tactic| refine hold ?_)
local macro_rules | `(tactic| walk_at "eval Dict nil nil") => `(tactic| (refine my_dict_nil (by k_asm) (by k_asm) (Top.nolimit (by k_asm)) ?_; intro D' ep' h' F' N' l1 lo'; clear l1))
local macro_rules | `(tactic| walk_at "getMethod ref") => `(tactic| (refine my_getMethod PySem.F.slot_dict_items PySem.F.type_dict_items (Fr.keep (by k_asm) _ _ (by assumption)) ?_))
local macro_rules | `(tactic| walk_at "call builtin:dict.items") => `(tactic| (refine my_itemsN (by k_asm) (by k_asm) (by assumption) (Fr.keep (by k_asm) _ _ (by assumption)) ?_; intro v' h' F' N' l1; clear l1))
local macro_rules | `(tactic| walk_at "pyIter ref") => `(tactic| refine hold ?_)
local macro_rules | `(tactic| walk_at "setItem ref ref") => `(tactic| refine hold ?_)
local macro_rules | `(tactic| walk_at "compareOp In ref ref") => `(tactic| refine hold ?_)
local macro_rules | `(tactic| walk_at "getItem ref ref") => `(tactic| refine hold ?_)

set_option maxRecDepth 100000 in
set_option maxHeartbeats 8000000 in
theorem tadd (w : World) (loose : List Str) (mean : ExcName → Option Value) (mg mb : Str → Option Value) : 
   PySem.Challenge.rw_mq0071_01.row.prog = PySem.Challenge.rw_mq0071_01.row.prog ∧ Mine.hd.heap_39 w.params = Mine.hd.heap_39 w.params ∧ Says w loose mean mg mb 42 1 (acPre w) (acPost w) := by
  k_fill
  refine ⟨rfl, rfl, ?_⟩
  unfold Says
  intro d dp un gd cn cs a ccd cl outer A₀ base h₀ L m s vs W Q E B F X T hk hW hpre hd hu hret
  obtain ⟨a1, a2, rfl, ⟨lo1, r1, ep1, e1, w1, n1, k1⟩, ⟨lo2, r2, ep2, e2, w2, n2, k2⟩, hlen⟩ := hpre
  obtain ⟨t1, t2⟩ := d
  dsimp only at e1 e2 hlen
  subst e1 e2
  have hg1 := hW _ _ w1
  have hg2 := hW _ _ w2
  k_dflt (walk_at "mine.enter")
  intro L' h1 hL' F' N' B' X' T'
  dsimp only
  k_fold
  w_strict k_steps
  refine Hold.mk (wpAny_For ?_ (by intro _; rfl))
  w_strict k_steps
  refine Hold.mk ?_
  rename_i D ep0 hA FA NA loX tkA v hB FB NB
  have loD : (D == sysModules) = false := by assumption
  refine iter_items (g := s.heap) (es := ents _ w r1) (ep := ep1) (news := [(D, dictObj (ents _ w []) ep0)]) rfl rfl rfl rfl ((NB _ (.head _)).1) ⟨_, hg1, rfl, rfl⟩ FB (fun p hp => NB p (.tail _ hp)) (fun i news₁ => ∃ ep, news₁ = [(D, dictObj (ents _ w (r1.take i)) ep)]) ⟨ep0, rfl⟩ ?_ ?_
  · rintro i e news₁ h tk it ito he ⟨ep, rfl⟩ hne F₁ N₁
    obtain ⟨x, hx, ek, ev⟩ := ents_get he
    rw [ek, ev] at F₁ ⊢
    have hDi : D ≠ it := hne _ (.head _)
    have hxm : x ∈ r1 := List.mem_of_getElem? hx
    w_strict k_steps
    refine Hold.mk (my_setItem (k := x.1) (by ktr_units) (by k_asm) (by k_asm) (.tail (Ne.symm hDi) (.head (by simp))) hW (by rw [List.map_take]; exact n1.sublist (List.take_sublist _ _)) (fun y hy => k1 y (List.take_subset _ _ hy)) (k1 x hxm) ?_ ?_)
    · have h2 : r1.length ≤ 1000 := by rw [show r1.length = (tabOf r1).length from by simp [tabOf]]; omega
      rw [List.length_take]; omega
    intro h' ep' tk' F₂ N₂
    rw [take_put n1 hx] at N₂
    w_strict k_steps
    exact ItEnd.intro (by k_asm) (by k_asm) (fun p hp => by rw [List.mem_singleton.mp hp]; exact hDi) ⟨_, rfl⟩
  · rintro u1 u2 h' tk news' F₁ N₁ ⟨ep, rfl⟩
    rw [ents_size, List.take_length] at N₁
    dsimp only
    w_strict k_steps
    refine Hold.mk (wpAny_For ?_ (by intro _; rfl))
    w_strict k_steps
    refine Hold.mk ?_
    rename_i tkC v2 hC FC NC
    refine iter_items (g := s.heap) (es := ents _ w r2) (ep := ep2) (news := [(D, dictObj (ents _ w r1) ep)]) rfl rfl rfl rfl ((NC _ (.head _)).1) ⟨_, hg2, rfl, rfl⟩ FC (fun p hp => NC p (.tail _ hp))
      (fun i news₁ => ∃ r ep, news₁ = [(D, dictObj (ents _ w r) ep)] ∧ tabOf r = merge (tabOf r1) ((tabOf r2).take i) ∧ (r.map (·.1)).Nodup ∧ (∀ x ∈ r, KeyAt W x.1 x.2.2.1) ∧ r.length ≤ r1.length + i) ⟨r1, ep, rfl, rfl, n1, k1, Nat.le_refl _⟩ ?_ ?_
    · rintro i e news₁ h tk it ito he ⟨r, ep, rfl, ht, hn, hkr, hlr⟩ hne F₁ N₁
      obtain ⟨x, hx, ek, ev⟩ := ents_get he
      rw [ek, ev] at F₁ ⊢
      have hDi : D ≠ it := hne _ (.head _)
      have hxm : x ∈ r2 := List.mem_of_getElem? hx
      have hi2 : i < r2.length := (List.getElem?_eq_some_iff.mp hx).1
      have hlr' : r.length ≤ 100000 := by simp only [tabOf, List.length_map] at hlen; omega
      have htake : merge (tabOf r1) ((tabOf r2).take (i + 1)) = addTo (merge (tabOf r1) ((tabOf r2).take i)) x.1 x.2.1 := by
        have e : (tabOf r2)[i]? = some (x.1, x.2.1) := by unfold tabOf; rw [List.getElem?_map, hx]; rfl
        rw [List.take_add_one, e, merge_append]; rfl
      w_strict k_steps
      refine Hold.mk ?_
      by_cases hm : x.1 ∈ r.map (·.1)
      · refine my_in (k := x.1) (b := true) (by ktr_units) (by k_asm) ((N₁ _ (.tail _ (.head _))).1) loD hW hn hkr (k2 x hxm) (decide_eq_true hm) ?_
        intro tk'
        obtain ⟨y, hy, hyx⟩ := List.mem_map.mp hm
        w_strict k_steps
        refine Hold.mk (my_getItem (k := x.1) (by ktr_units) (by k_asm) ((N₁ _ (.tail _ (.head _))).1) hW hn hkr (k2 x hxm) hy hyx ?_)
        intro tk2
        w_strict k_steps
        refine Hold.mk (my_setItem (k := x.1) (by ktr_units) (by k_asm) (by k_asm) (.tail (Ne.symm hDi) (.head (by simp))) hW hn hkr (k2 x hxm) hlr' ?_)
        intro h' ep' tk' F₂ N₂
        w_strict k_steps
        refine ItEnd.intro (by k_asm) (by k_asm) (fun p hp => by rw [List.mem_singleton.mp hp]; exact hDi) ⟨_, _, rfl, ?_, nodup_put hn _ _ _ _, ?_, ?_⟩
        · rw [← hyx, tabOf_put_old hn hy, ht, htake, hyx]
        · intro z hz
          rcases mem_put hz with ⟨y, hy, e1, e2⟩ | ⟨e1, e2⟩
          · rw [← e1, ← e2]; exact hkr y hy
          · rw [e1, e2]; exact k2 x hxm
        · exact Nat.le_trans (put_len _ _ _ _ _) (by omega)
      · refine my_in (k := x.1) (b := false) (by ktr_units) (by k_asm) ((N₁ _ (.tail _ (.head _))).1) loD hW hn hkr (k2 x hxm) (decide_eq_false hm) ?_
        intro tk'
        w_strict k_steps
        refine Hold.mk (my_setItem (k := x.1) (by ktr_units) (by k_asm) (by k_asm) (.tail (Ne.symm hDi) (.head (by simp))) hW hn hkr (k2 x hxm) hlr' ?_)
        intro h' ep' tk' F₂ N₂
        w_strict k_steps
        refine ItEnd.intro (by k_asm) (by k_asm) (fun p hp => by rw [List.mem_singleton.mp hp]; exact hDi) ⟨_, _, rfl, ?_, nodup_put hn _ _ _ _, ?_, ?_⟩
        · rw [tabOf_put_new hm, ht, htake]
        · intro z hz
          rcases mem_put hz with ⟨y, hy, e1, e2⟩ | ⟨e1, e2⟩
          · rw [← e1, ← e2]; exact hkr y hy
          · rw [e1, e2]; exact k2 x hxm
        · have := put_len r x.1 x.2.2.1 x.2.1 x.2.2.2; omega
    · rintro u1 u2 h' tk news' F₁ N₁ ⟨r, ep, rfl, ht, hn, hkr, hlr⟩
      rw [ents_size, List.take_of_length_le (by simp [tabOf])] at ht
      dsimp only
      w_strict k_steps
      repeat (first | k_unfold | dsimp only)
      refine hret _ _ _ _ (Fr.keep (by k_asm)) (news_new (by k_asm)) ⟨D, rfl, loD, r, ep, ht, .inr (.head _), hn, fun z hz => (hkr z hz).mono fun a o q => .inl q⟩
end
end Mine
end

section
open PySem PySem.W PyProof.Rows PySem.Spec PySem.Calls
namespace Mine
local macro_rules | `(tactic| walk_at "mine.cases") => `(tactic| ((case kA => exact rfl); (case kF => exact rfl); (case kK => assumption); (case k1 => k_asm); (case k2 => k_asm); (case k3 => k_asm); (case k5 => k_asm); (case k6 => k_is); (case k7 => k_is); (case k8 => ktr_room); (case k9 => exact BindsTo.of_eq rfl); (case c5 => decide); (case kB => exact locs rfl); (case c2 => exact rfl); (case c3 => exact rfl); (case c4 => exact rfl); k_whole))

def ccPre (w : World) (W : Know) (vs : List Value) (t : Tab) : Prop := ∃ a, vs = [.ref a] ∧ TabAt PySem.Challenge.rw_mq0071_01.row.prog w W t a
def ccPost (_ : Know) (r : Value) (t : Tab) : Prop := ∃ tk, r = .int (tot t) tk

theorem upd2C {x y : Str} {a b c d : Option Value} (m : Str → Option Value) : (fun z => if z = x then a else if z = y then b else if z = x then c else if z = y then d else m z) = fun z => if z = x then a else if z = y then b else m z := by
  funext z
  by_cases h1 : z = x
  · simp [h1]
  · by_cases h2 : z = y
    · simp [h2]
    · simp [h1, h2]
theorem upd1C {x y : Str} (hxy : x ≠ y) {a : Option Value} (m : Str → Option Value) : (fun z => if z = x then a else m z) = fun z => if z = x then a else if z = y then m y else m z := by
  funext z
  by_cases h1 : z = x
  · simp [h1]
  · by_cases h2 : z = y
    · simp [h2]
    · simp [h1, h2]

section
local macro_rules | `(tactic| walk_at "exec For Name Call cons nil") => `(tactic| refine hold ?_)
local macro_rules | `(tactic| walk_at "getMethod ref") => `(tactic| (refine my_getMethod PySem.F.slot_dict_values PySem.F.type_dict_values (Fr.keep (by k_asm) _ _ (by assumption)) ?_))
local macro_rules | `(tactic| walk_at "call builtin:dict.values") => `(tactic| (refine my_valuesN (by k_asm) (by k_asm) (by assumption) (Fr.keep (by k_asm) _ _ (by assumption)) ?_; intro v' h' F' N' l1; clear l1))
local macro_rules | `(tactic| walk_at "pyIter ref") => `(tactic| refine hold ?_)

set_option maxRecDepth 100000 in
set_option maxHeartbeats 8000000 in
theorem tcount (w : World) (loose : List Str) (mean : ExcName → Option Value) (mg mb : Str → Option Value) : 
   PySem.Challenge.rw_mq0071_01.row.prog = PySem.Challenge.rw_mq0071_01.row.prog ∧ Mine.hd.heap_39 w.params = Mine.hd.heap_39 w.params ∧ Says w loose mean mg mb 49 1 (ccPre w) ccPost := by
  k_fill
  refine ⟨rfl, rfl, ?_⟩
  unfold Says
  intro d dp un gd cn cs a ccd cl outer A₀ base h₀ L m s vs W Q E B F X T hk hW hpre hd hu hret
  obtain ⟨a1, rfl, ⟨lo1, r1, ep1, e1, w1, n1, k1⟩⟩ := hpre
  subst e1
  have hg1 := hW _ _ w1
  refine wpAny_call ?_
  k_dflt (refine' enter (binds := [(Str.ofString "callers", Value.ref a1)]) ?k1 ?k2 ?k3 ?k5 ?kA ?kF ?kK ?k6 ?k7 ?k8 ?k9 ?kB ?_ ?c2 ?c3 ?c4 ?c5; walk_at "mine.cases")
  intro L' h1 hL' F' N' B' X' T'
  dsimp only
  k_fold
  w_strict k_steps
  refine Hold.mk (wpAny_For ?_ (by intro _; rfl))
  w_strict k_steps
  refine Hold.mk ?_
  rename_i hA FA NA v hB FB NB
  have e0 : ∀ tk : Tok, (fun y => if y = Str.ofString "nc" then some (Value.int 0 tk) else List.lookup y [(Str.ofString "callers", Value.ref a1)].reverse) = _ := fun tk => upd1C (x := Str.ofString "nc") (y := Str.ofString "calls") (by decide) _
  rw [e0] at FB
  refine iter_vals (g := s.heap) (es := ents _ w r1) (ep := ep1) (news := [(v, valsObj a1)]) rfl ((NB _ (.head _)).1) ⟨_, hg1, rfl, rfl⟩ FB NB
    (fun i m₁ news₁ => news₁ = [(v, valsObj a1)] ∧ ∃ u tk, m₁ = fun y => if y = Str.ofString "nc" then some (Value.int (tot ((tabOf r1).take i)) tk) else if y = Str.ofString "calls" then u else List.lookup y [(Str.ofString "callers", Value.ref a1)].reverse)
    ⟨rfl, _, _, rfl⟩ ?_ ?_
  · rintro i e m₁ news₁ h tk I ito he ⟨rfl, u, tk1, rfl⟩ hne F₁ N₁
    obtain ⟨x, hx, ek, ev⟩ := ents_get he
    rw [ev]
    have ht : tot ((tabOf r1).take (i + 1)) = tot ((tabOf r1).take i) + x.2.1 := by
      have e : (tabOf r1)[i]? = some (x.1, x.2.1) := by unfold tabOf; rw [List.getElem?_map, hx]; rfl
      rw [List.take_add_one, e]
      simp [tot]
    rw [ht]
    w_strict k_steps
    exact GEnd.intro (by k_asm) (by k_asm) hne ⟨rfl, _, _, upd2C _⟩
  · rintro h' tk m' news' F₁ N₁ ⟨rfl, u, tk1, rfl⟩
    rw [ents_size, List.take_of_length_le (by simp [tabOf])] at F₁
    dsimp only
    w_strict k_steps
    repeat (first | k_unfold | dsimp only)
    exact hret _ [] _ _ (Fr.keep (by k_asm)) (fun q hq => nomatch hq) ⟨_, rfl⟩
end
end Mine
end

section
open PySem PySem.W PyProof.Rows PySem.Spec PySem.Calls
namespace Mine
local macro_rules | `(tactic| walk_at "mine.cases") => `(tactic| ((case kA => exact rfl); (case kF => exact rfl); (case kK => assumption); (case k1 => k_asm); (case k2 => k_asm); (case k3 => k_asm); (case k5 => k_asm); (case k6 => k_is); (case k7 => k_is); (case k8 => ktr_room); (case k9 => exact BindsTo.of_eq rfl); (case c5 => decide); (case kB => exact locs rfl); (case c2 => exact rfl); (case c3 => exact rfl); (case c4 => exact rfl); k_whole))

def lgPre (W : Know) (vs : List Value) (cs : List Clr) : Prop := ∃ a, vs = [.ref a] ∧ CsAt W cs a ∧ cs.length ≤ 1000
def lgPost (W : Know) (r : Value) (cs : List Clr) : Prop := ∃ a, r = .ref a ∧ CsAt W (tab cs) a

theorem upd0 {x y : Str} (m : Str → Option Value) : m = fun z => if z = x then m x else if z = y then m y else m z := by
  funext z
  by_cases h1 : z = x
  · simp [h1]
  · by_cases h2 : z = y
    · subst h2; simp [h1]
    · simp [h1, h2]
theorem upd2L {x y : Str} {a b c d : Option Value} (m : Str → Option Value) : (fun z => if z = x then a else if z = y then b else if z = x then c else if z = y then d else m z) = fun z => if z = x then a else if z = y then b else m z := by
  funext z
  by_cases h1 : z = x
  · simp [h1]
  · by_cases h2 : z = y
    · simp [h2]
    · simp [h1, h2]
theorem put_lenL (r : List Rw) (k : Key) (a : Addr) (v : Int) (tk : Tok) : (put r k a v tk).length ≤ r.length + 1 := by
  unfold put
  split
  · rw [List.length_map]; omega
  · simp

section
local macro_rules | `(tactic| walk_at "exec For") => `(tactic| refine hold ?_)
local macro_rules | `(tactic| walk_at "eval Dict nil nil") => `(tactic| (refine my_dict_nil (by k_asm) (by k_asm) (Top.nolimit (by k_asm)) ?_; intro D' ep' h' F' N' l1 lo'; clear l1))
local macro_rules | `(tactic| walk_at "pyIter ref") => `(tactic| refine hold ?_)
local macro_rules | `(tactic| walk_at "getMethod ref") => `(tactic| first | (refine my_getMethod PySem.F.slot_dict_get PySem.F.type_dict_get (News.get (by k_asm) (by k_dflt k_mem)) ?_) | (refine my_getMethod PySem.F.slot_dict_items PySem.F.type_dict_items (News.get (by k_asm) (by k_dflt k_mem)) ?_))
local macro_rules | `(tactic| walk_at "call builtin:dict.get") => `(tactic| refine hold ?_)
local macro_rules | `(tactic| walk_at "setItem ref ref") => `(tactic| refine hold ?_)
local macro_rules | `(tactic| walk_at "call builtin:dict.items") => `(tactic| (refine my_itemsN (by k_asm) (by k_asm) (by assumption) (News.get (by k_asm) (by k_dflt k_mem)) ?_; intro v' h' F' N' l1; clear l1))
local macro_rules | `(tactic| walk_at "call type:list") => `(tactic| refine hold ?_)

set_option maxRecDepth 100000 in
set_option maxHeartbeats 8000000 in
theorem tledger (w : World) (loose : List Str) (mean : ExcName → Option Value) (mg mb : Str → Option Value) : 
   PySem.Challenge.rw_mq0071_01.row.prog = PySem.Challenge.rw_mq0071_01.row.prog ∧ Mine.hd.heap_39 w.params = Mine.hd.heap_39 w.params ∧ Says w loose mean mg mb 68 1 lgPre lgPost := by
  k_fill
  refine ⟨rfl, rfl, ?_⟩
  unfold Says
  intro cs dp un gd cn cs' a ccd cl outer A₀ base h₀ L m s vs W Q E B F X T hk hW hpre hd hu hret
  obtain ⟨a1, rfl, ⟨ws, wn, hl, hlen, hcs⟩, hcl⟩ := hpre
  have hgl : s.heap.IsList a1 ws.toArray := ⟨_, hW _ _ hl, rfl, wn, rfl⟩
  refine wpAny_call ?_
  k_dflt (refine' enter (binds := [(Str.ofString "callers", Value.ref a1)]) ?k1 ?k2 ?k3 ?k5 ?kA ?kF ?kK ?k6 ?k7 ?k8 ?k9 ?kB ?_ ?c2 ?c3 ?c4 ?c5; walk_at "mine.cases")
  intro L' h1 hL' F' N' B' X' T'
  dsimp only
  k_fold
  w_strict k_steps
  refine Hold.mk (wpAny_For ?_ (by intro _; rfl))
  w_strict k_steps
  refine Hold.mk ?_
  rename_i D ep0 hX loX hA FA NA
  have loD : (D == sysModules) = false := by assumption
  refine iter_list (g := s.heap) (news := [(D, dictObj (ents _ w []) ep0)]) rfl hgl (by k_asm) (by k_asm) ?_
    (fun i m₁ news₁ => ∃ r ep u1 u2, news₁ = [(D, dictObj (ents _ w r) ep)] ∧ (m₁ = fun y => if y = Str.ofString "count" then u1 else if y = Str.ofString "func" then u2 else if y = Str.ofString "ledger" then some (Value.ref D) else List.lookup y [(Str.ofString "callers", Value.ref a1)].reverse) ∧
      tabOf r = tab (cs.take i) ∧ (r.map (·.1)).Nodup ∧ (∀ x ∈ r, KeyAt W x.1 x.2.2.1) ∧ r.length ≤ i)
    ⟨[], ep0, _, _, rfl, upd0 _, rfl, List.nodup_nil, (fun _ h => nomatch h), Nat.le_refl _⟩ ?_ ?_
  · intro I i s' v Q' st q
    cases v <;> first | exact wpAny_pure q | exact wpAny_letOwnedTupleGo_listiter st q
  · rintro i v m₁ news₁ h tk I ito hv ⟨r, ep, u1, u2, rfl, rfl, ht, hn, hkr, hlr⟩ hne F₁ N₁
    have hiw : i < cs.length := by
      have := (List.getElem?_eq_some_iff.mp (by simpa using hv : ws[i]? = some v)).1
      omega
    obtain ⟨p, hp, b, tk1, n1, hpt, hkb⟩ := hcs i cs[i] (by simp [hiw])
    have hvp : v = .ref p := by
      have h1 : ws[i]? = some v := by simpa using hv
      rw [hp] at h1; exact (Option.some.inj h1).symm
    subst hvp
    have htk : tab (cs.take (i + 1)) = addTo (tab (cs.take i)) cs[i].1 cs[i].2 := by
      unfold tab
      rw [List.take_add_one, List.getElem?_eq_getElem hiw, merge_append]; rfl
    generalize cs[i] = c at hp hpt hkb htk
    have hDi : D ≠ I := hne _ (.head _)
    refine assign2 rfl F₁ N₁ (F₁.keep _ _ (hW _ _ hpt)) rfl rfl rfl ?_
    intro h2 tk2 F₂ N₂
    have hlr' : r.length ≤ 100000 := by omega
    w_strict k_steps
    refine Hold.mk ?_
    refine my_get2 (k := c.1) (by ktr_units) F₂ ((N₂ _ (.tail _ (.head _))).1) loD hW hn hkr hkb ?_ ?_
    · intro x hx hxk tk3
      w_strict k_steps
      refine Hold.mk (my_setItem (k := c.1) (by ktr_units) (by k_asm) (by k_asm) (.tail (Ne.symm hDi) (.head (by simp))) hW hn hkr hkb hlr' ?_)
      intro h' ep' tk' F₃ N₃
      w_strict k_steps
      refine GEnd.intro (by k_asm) (by k_asm) (fun p hp => by rw [List.mem_singleton.mp hp]; exact hDi) ⟨_, _, _, _, rfl, upd2L _, ?_, nodup_put hn _ _ _ _, ?_, ?_⟩
      · rw [htk, ← ht, ← hxk, tabOf_put_old hn hx]
      · intro z hz
        rcases mem_put hz with ⟨y, hy, e1, e2⟩ | ⟨e1, e2⟩
        · rw [← e1, ← e2]; exact hkr y hy
        · rw [e1, e2]; exact hkb
      · exact Nat.le_trans (put_lenL _ _ _ _ _) (by omega)
    · intro hnot tk3
      w_strict k_steps
      refine Hold.mk (my_setItem (k := c.1) (by ktr_units) (by k_asm) (by k_asm) (.tail (Ne.symm hDi) (.head (by simp))) hW hn hkr hkb hlr' ?_)
      intro h' ep' tk' F₃ N₃
      w_strict k_steps
      refine GEnd.intro (by k_asm) (by k_asm) (fun p hp => by rw [List.mem_singleton.mp hp]; exact hDi) ⟨_, _, _, _, rfl, upd2L _, ?_, nodup_put hn _ _ _ _, ?_, ?_⟩
      · rw [htk, ← ht, tabOf_put_new hnot, Int.zero_add]
      · intro z hz
        rcases mem_put hz with ⟨y, hy, e1, e2⟩ | ⟨e1, e2⟩
        · rw [← e1, ← e2]; exact hkr y hy
        · rw [e1, e2]; exact hkb
      · exact Nat.le_trans (put_lenL _ _ _ _ _) (by omega)
  · rintro h' tk m' news' F₁ N₁ ⟨r, ep, u1, u2, rfl, rfl, ht, hn, hkr, hlr⟩
    rw [show ws.toArray.size = cs.length from by simpa using hlen] at ht hlr
    rw [List.take_length] at ht
    dsimp only
    w_strict k_steps
    refine Hold.mk ?_
    rename_i v2 h2 F2 N2
    refine my_list_items (r := r) (W := W) rfl (by k_asm) (by k_asm) ((N2 _ (.head _)).1) ((N2 _ (.tail _ (.head _))).1) (by omega) hkr ?_
    intro S tl h3 tk3 F3 N3 hfr hcs3
    w_strict k_steps
    repeat (first | k_unfold | dsimp only)
    rw [ht] at hcs3
    refine hret _ _ _ _ (Fr.keep (by k_asm)) (news_new (by k_asm)) ⟨S, rfl, hcs3.mono ?_⟩
    rintro a o (q | q)
    · exact .inl q
    · exact .inr (List.mem_append.mpr (.inl q))
end
end Mine
end

section
open PySem PySem.W PyProof.Rows PySem.Spec PySem.Calls
namespace Mine
local macro_rules | `(tactic| walk_at "mine.cases") => `(tactic| ((case kA => exact rfl); (case kF => exact rfl); (case kK => assumption); (case k1 => k_asm); (case k2 => k_asm); (case k3 => k_asm); (case k5 => k_asm); (case k6 => k_is); (case k7 => k_is); (case k8 => ktr_room); (case k9 => exact BindsTo.of_eq rfl); (case c5 => decide); (case kB => exact locs rfl); (case c2 => exact rfl); (case c3 => exact rfl); (case c4 => exact rfl); k_whole))

def clPre (W : Know) (vs : List Value) (ns : List Int) : Prop := ∃ a us n, vs = [.ref a] ∧ W a (listOf (List.toArray us) n) ∧ IntsAre us ns ∧ ns.length ≤ 10
def clPost (W : Know) (r : Value) (ns : List Int) : Prop := ∃ a cs, r = .ref a ∧ CsAt W cs a ∧ (∀ c ∈ cs, OkC c) ∧ cs.length = ns.length

structure Sg (d : Nat) : Prop where
  lt : d < 55296
  sp : Unicode.isSpace d = false
  ne : d ≠ 58 ∧ d ≠ 40 ∧ d ≠ 41 ∧ d ≠ 123 ∧ d ≠ 125

def SignEnd (g : Heap) (L a1 : Addr) (s₀ : Shared) (fl : Flow) (s' : Shared) : Prop :=
  fl = .next ∧ ∃ sd t h' tk, s' = { s₀ with heap := h', toks := tk } ∧ Fr g L h' (fun y => if y = Str.ofString "sign" then some (.str (S [sd]) t) else List.lookup y [(Str.ofString "numbers", Value.ref a1)].reverse) ∧ News g L h' [] ∧ Sg sd
theorem SignEnd.intro {g : Heap} {L a1 : Addr} {s₀ : Shared} {sd : Nat} {t : Tok} {h' : Heap} {tk : Nat} (F : Fr g L h' (fun y => if y = Str.ofString "sign" then some (.str (S [sd]) t) else List.lookup y [(Str.ofString "numbers", Value.ref a1)].reverse)) (N : News g L h' []) (hs : Sg sd) :
    SignEnd g L a1 s₀ .next { s₀ with heap := h', toks := tk } := ⟨rfl, sd, t, h', tk, rfl, F, N, hs⟩

theorem isspace_one (n : Nat) : Txt.isspace ⟨#[n]⟩ = Unicode.isSpace n := by simp [Txt.isspace, Str.length]
theorem sg_of {n : Nat} (h0 : n < 55296) (h1 : Txt.isspace ⟨#[n]⟩ = false) (h2 : (Builtin.Str.occurrences (Str.ofString ":(){}") ⟨#[n]⟩ 0 (Str.ofString ":(){}").length 1).isEmpty = true) : Sg n := by
  refine ⟨h0, (isspace_one n) ▸ h1, ?_⟩
  rw [empty_one] at h2
  have : n ∉ (Str.ofString ":(){}").cps.toList := by simpa using h2
  rw [show (Str.ofString ":(){}").cps.toList = [58, 40, 41, 123, 125] from by decide +kernel] at this
  simpa using this
theorem sg_a : Sg 97 := ⟨by decide, by decide +kernel, by decide⟩
theorem upd1S {x : Str} {a b : Option Value} (m : Str → Option Value) : (fun z => if z = x then a else if z = x then b else m z) = fun z => if z = x then a else m z := by
  funext z
  by_cases h1 : z = x <;> simp [h1]
theorem upd4s {x1 x2 x3 x4 : Str} (m : Str → Option Value) : m = fun z => if z = x1 then m x1 else if z = x2 then m x2 else if z = x3 then m x3 else if z = x4 then m x4 else m z := by
  funext z
  by_cases h1 : z = x1
  · simp [h1]
  · by_cases h2 : z = x2
    · subst h2; simp [h1]
    · by_cases h3 : z = x3
      · subst h3; simp [h1, h2]
      · by_cases h4 : z = x4
        · subst h4; simp [h1, h2, h3]
        · simp [h1, h2, h3, h4]

def sel {α : Type} (i : Int) (a b c : α) : α := if i = 0 then a else if i = 1 then b else c
section
variable {prog : Program} {w : World} {A : Around} {E : Value → Shared → Prop} {s : Shared} {h₀ : Heap} {L l : Addr} {news : List (Addr × Obj)} {value slice : Expr} {i : Int} {u t0 t1 t2 : Tok} {n : Nat} {Q : Value → Shared → Prop}
theorem my_pick {v : Value} {vs : Array Value} (N : News h₀ L s.heap news) (hm : (l, listOf vs n) ∈ news) (h0 : 0 ≤ i) (h1 : i < 3) (hv : vs[i.toNat]? = some v) (h : Q v s)
    (hs : subscripted slice false (.ref l) (.int i u) = operate [.ref l, .int i u] (getItem (.ref l) (.int i u)) := by with_unfolding_all rfl) :
    wpAny (model prog w) A (subscriptTail value slice (.ref l) (.int i u)) Q E s := by
  have hl : s.heap.IsList l vs := ⟨_, (N _ hm).1, rfl, n, rfl⟩
  exact tail_any hl.typeIs PySem.F.slot_list_getitem.lookup (wpAny_getItem_list hl h0 (by omega) hv h) hs
theorem my_pickS {a b c : List Nat} {x0 x1 x2 : Str} (N : News h₀ L s.heap news) (hm : (l, listOf #[.str x0 t0, .str x1 t1, .str x2 t2] n) ∈ news) (e0 : x0 = S a) (e1 : x1 = S b) (e2 : x2 = S c) (h0 : 0 ≤ i) (h1 : i < 3)
    (h : ∀ t', Q (.str (S (sel i a b c)) t') s)
    (hs : subscripted slice false (.ref l) (.int i u) = operate [.ref l, .int i u] (getItem (.ref l) (.int i u)) := by with_unfolding_all rfl) :
    wpAny (model prog w) A (subscriptTail value slice (.ref l) (.int i u)) Q E s := by
  subst e0 e1 e2
  have : i = 0 ∨ i = 1 ∨ i = 2 := by omega
  rcases this with rfl | rfl | rfl
  · exact my_pick N hm (by omega) (by omega) rfl (h t0) hs
  · exact my_pick N hm (by omega) (by omega) rfl (h t1) hs
  · exact my_pick N hm (by omega) (by omega) rfl (h t2) hs
theorem my_pickI {a b c : Int} (N : News h₀ L s.heap news) (hm : (l, listOf #[.int a t0, .int b t1, .int c t2] n) ∈ news) (h0 : 0 ≤ i) (h1 : i < 3)
    (h : ∀ t', Q (.int (sel i a b c) t') s)
    (hs : subscripted slice false (.ref l) (.int i u) = operate [.ref l, .int i u] (getItem (.ref l) (.int i u)) := by with_unfolding_all rfl) :
    wpAny (model prog w) A (subscriptTail value slice (.ref l) (.int i u)) Q E s := by
  have : i = 0 ∨ i = 1 ∨ i = 2 := by omega
  rcases this with rfl | rfl | rfl
  · exact my_pick N hm (by omega) (by omega) rfl (h t0) hs
  · exact my_pick N hm (by omega) (by omega) rfl (h t1) hs
  · exact my_pick N hm (by omega) (by omega) rfl (h t2) hs
end
theorem r3 (x : Int) : 0 ≤ x.fmod 3 := Int.fmod_nonneg_of_pos x (by decide)
theorem r3' (x : Int) : x.fmod 3 < 3 := Int.fmod_lt_of_pos x (by decide)
theorem py_S : Str.ofString "a.py" = S [97, 46, 112, 121] := by decide +kernel
theorem f_S : Str.ofString "f" = S [102] := by decide +kernel
theorem gh_S : Str.ofString "g h" = S [103, 32, 104] := by decide +kernel
theorem ts_S (d : Nat) : Str.ofString "~" ++ S [d] = S [126, d] := by rw [tilde_S, S_append]; rfl

def NameEnd (g : Heap) (L : Addr) (m : Str → Option Value) (news : List (Addr × Obj)) (P : List Nat → Prop) (s₀ : Shared) (fl : Flow) (s' : Shared) : Prop :=
  fl = .next ∧ ∃ nm t h' tk, s' = { s₀ with heap := h', toks := tk } ∧ Fr g L h' (fun y => if y = Str.ofString "name" then some (.str (S nm) t) else m y) ∧ News g L h' news ∧ P nm
theorem NameEnd.new {g : Heap} {L : Addr} {m : Str → Option Value} {news : List (Addr × Obj)} {P : List Nat → Prop} {s₀ : Shared} {nm : List Nat} {t : Tok} {h' : Heap} {tk : Nat} {x : Str} (F : Fr g L h' (fun y => if y = Str.ofString "name" then some (.str x t) else m y))
    (N : News g L h' news) (e : x = S nm) (hP : P nm) : NameEnd g L m news P s₀ .next { s₀ with heap := h', toks := tk } := ⟨rfl, nm, t, h', tk, rfl, e ▸ F, N, hP⟩
theorem NameEnd.old {g : Heap} {L : Addr} {m : Str → Option Value} {news : List (Addr × Obj)} {P : List Nat → Prop} {s₀ : Shared} {nm : List Nat} {t : Tok} {h' : Heap} {tk : Nat} (F : Fr g L h' m)
    (N : News g L h' news) (e : m (Str.ofString "name") = some (.str (S nm) t)) (hP : P nm) : NameEnd g L m news P s₀ .next { s₀ with heap := h', toks := tk } := by
  refine ⟨rfl, nm, t, h', tk, rfl, ?_, N, hP⟩
  have : (fun y => if y = Str.ofString "name" then some (.str (S nm) t) else m y) = m := by
    funext y
    split
    · next h => rw [h, e]
    · rfl
  rw [this]; exact F
theorem name_if {prog : Program} {w : World} {A : Around} {E : Value → Shared → Prop} {s : Shared} {g : Heap} {L : Addr} {m : Str → Option Value} {news : List (Addr × Obj)} {c : Sem Flow} {Q : Flow → Shared → Prop} (F : Fr g L s.heap m) (N : News g L s.heap news) (P : List Nat → Prop)
    (h1 : wpAny (model prog w) A c (NameEnd g L m news P s) (fun _ _ => False) s) (h2 : ∀ nm t h' tk, P nm → Fr g L h' (fun y => if y = Str.ofString "name" then some (.str (S nm) t) else m y) → News g L h' news → Q .next { s with heap := h', toks := tk }) : wpAny (model prog w) A c Q E s :=
  wpAny_mono h1 (fun fl s' ⟨e, nm, t, h', tk, e', F', N', hP⟩ => by subst e e'; exact h2 nm t h' tk hP F' N') fun _ _ x => x.elim

abbrev fileOf (sd : Nat) (x : Int) : List Nat := sel (x.fmod 3) [126] [97, 46, 112, 121] [126, sd]
abbrev lineOf (x : Int) : Int := sel ((x.fdiv 3).fmod 3) 0 12 (-1)
abbrev nameOf (sd : Nat) (x : Int) : List Nat := sel ((x.fdiv 9).fmod 3) [102] [sd] [103, 32, 104]
def nmOk (sd : Nat) (x : Int) (nm : List Nat) : Prop := (nm = nameOf sd x ∧ ¬ (fileOf sd x = [126] ∧ lineOf x = 0)) ∨ nm = [60] ++ nameOf sd x ++ [62]
theorem sel_or {α : Type} (i : Int) (a b c : α) : sel i a b c = a ∨ sel i a b c = b ∨ sel i a b c = c := by
  unfold sel
  split
  · exact .inl rfl
  · split
    · exact .inr (.inl rfl)
    · exact .inr (.inr rfl)
theorem pl_sg {d : Nat} (h : Sg d) : Pl d := by
  refine ⟨?_, h.ne.1, h.ne.2.1, h.ne.2.2.1, h.ne.2.2.2.1, h.ne.2.2.2.2⟩
  rintro rfl
  exact absurd h.sp (by decide +kernel)
theorem small_sg {d : Nat} (h : Sg d) : d < 0x110000 := Nat.lt_trans h.lt (by decide)
theorem ok_ends {a b : Nat} {l : List Nat} (h1 : Unicode.isSpace a = false) (h2 : Unicode.isSpace b = false) (hl : ∀ d ∈ l, Pl d) (hd : l.head? = some a) (hg : l.getLast? = some b) : OkS l := by
  refine ⟨?_, hl, fun c e => ?_, fun c e => ?_⟩
  · rintro rfl; cases hd
  · rw [hd] at e; cases e; exact h1
  · rw [hg] at e; cases e; exact h2
theorem name_ok {sd : Nat} (hs : Sg sd) (x : Int) : OkS (nameOf sd x) ∧ (nameOf sd x).length ≤ 3 ∧ (∀ d ∈ nameOf sd x, d < 0x110000) := by
  unfold nameOf
  rcases sel_or ((x.fdiv 9).fmod 3) [102] [sd] [103, 32, 104] with e | e | e <;> rw [e]
  · exact ⟨okS_of (by decide +kernel), by decide, by decide⟩
  · exact ⟨ok_ends hs.sp hs.sp (fun d h => by rw [List.mem_singleton.mp h]; exact pl_sg hs) rfl rfl, by simp, fun d h => by rw [List.mem_singleton.mp h]; exact small_sg hs⟩
  · exact ⟨okS_of (by decide +kernel), by decide, by decide⟩
theorem file_ok {sd : Nat} (hs : Sg sd) (x : Int) : OkS (fileOf sd x) ∧ (fileOf sd x).length ≤ 4 ∧ (∀ d ∈ fileOf sd x, d < 0x110000) := by
  unfold fileOf
  rcases sel_or (x.fmod 3) [126] [97, 46, 112, 121] [126, sd] with e | e | e <;> rw [e]
  · exact ⟨okS_of (by decide +kernel), by decide, by decide⟩
  · exact ⟨okS_of (by decide +kernel), by decide, by decide⟩
  · refine ⟨ok_ends (a := 126) (by decide +kernel) hs.sp (fun d h => ?_) rfl rfl, by simp, fun d h => ?_⟩
    · rcases List.mem_cons.mp h with rfl | h
      · decide
      · rw [List.mem_singleton.mp h]; exact pl_sg hs
    · rcases List.mem_cons.mp h with rfl | h
      · decide
      · rw [List.mem_singleton.mp h]; exact small_sg hs
theorem okc_of {sd : Nat} {x : Int} {nm : List Nat} (hs : Sg sd) (hn : nmOk sd x nm) : OkC ((fileOf sd x, lineOf x, nm), (x.fdiv 54).fmod 100 - 1) := by
  obtain ⟨f1, f2, f3⟩ := file_ok hs x
  obtain ⟨n1, n2, n3⟩ := name_ok hs x
  have c1 := Int.fmod_nonneg_of_pos (x.fdiv 54) (b := 100) (by decide)
  have c2 := Int.fmod_lt_of_pos (x.fdiv 54) (b := 100) (by decide)
  have hl : lineOf x = 0 ∨ lineOf x = 12 ∨ lineOf x = -1 := sel_or _ _ _ _
  rcases hn with ⟨rfl, hno⟩ | rfl
  · exact ⟨f1, n1, hl, ⟨by show _ ≤ _ - _; omega, by show _ - _ ≤ _; omega⟩, fun e1 e2 => absurd ⟨e1, e2⟩ hno, ⟨f2, by show (nameOf sd x).length ≤ 5; omega⟩, f3, n3⟩
  · refine ⟨f1, ok_ends (a := 60) (b := 62) (by decide +kernel) (by decide +kernel) (fun d h => ?_) rfl (by rw [List.getLast?_append]; rfl), hl, ⟨by show _ ≤ _ - _; omega, by show _ - _ ≤ _; omega⟩, fun _ _ => ⟨_, rfl⟩, ⟨f2, by simp; omega⟩, f3, fun d h => ?_⟩
    · simp only [List.mem_append, List.mem_singleton] at h
      rcases h with (rfl | h) | rfl
      · decide
      · exact n1.2.1 d h
      · decide
    · simp only [List.mem_append, List.mem_singleton] at h
      rcases h with (rfl | h) | rfl
      · decide
      · exact n3 d h
      · decide
theorem nm_len1 {sd : Nat} (i : Int) : (Str.ofString "<").length + (S (sel i [102] [sd] [103, 32, 104])).length ≤ sizeLine := by
  rw [sizeLine_eq, lt_S]
  rcases sel_or i [102] [sd] [103, 32, 104] with e | e | e <;> rw [e] <;> simp [S, Str.length]
theorem nm_len2 {sd : Nat} (i : Int) : (Str.ofString "<" ++ S (sel i [102] [sd] [103, 32, 104])).length + (Str.ofString ">").length ≤ sizeLine := by
  rw [sizeLine_eq, lt_S, gt_S, S_append]
  rcases sel_or i [102] [sd] [103, 32, 104] with e | e | e <;> rw [e] <;> simp [S, Str.length]
theorem news_sub {h₀ h : Heap} {L : Addr} {news news' : List (Addr × Obj)} (N : News h₀ L h news) (k : ∀ p ∈ news', p ∈ news) : News h₀ L h news' := fun p hp => N p (k p hp)
theorem news_re {h₀ h : Heap} {L : Addr} {tl : List (Addr × Obj)} {q2 q1 a b c qi qD : Addr × Obj} (N : News h₀ L h (q2 :: q1 :: a :: b :: c :: qi :: qD :: tl)) : News h₀ L h (qi :: qD :: q2 :: q1 :: tl) := by
  refine news_sub N fun p hp => ?_
  simp only [List.mem_cons] at hp ⊢
  rcases hp with h | h | h | h | h <;> simp [h]
theorem upd5 {x1 x2 x3 x4 : Str} {a1 a2 a3 a4 a5 b1 b2 b3 b4 : Option Value} (m : Str → Option Value) :
    (fun z => if z = x1 then a5 else if z = x1 then a1 else if z = x2 then a2 else if z = x3 then a3 else if z = x4 then a4 else if z = x1 then b1 else if z = x2 then b2 else if z = x3 then b3 else if z = x4 then b4 else m z) =
      fun z => if z = x1 then a5 else if z = x2 then a2 else if z = x3 then a3 else if z = x4 then a4 else m z := by
  funext z
  by_cases h1 : z = x1
  · simp [h1]
  · by_cases h2 : z = x2
    · subst h2; simp [h1]
    · by_cases h3 : z = x3
      · subst h3; simp [h1, h2]
      · by_cases h4 : z = x4
        · subst h4; simp [h1, h2, h3]
        · simp [h1, h2, h3, h4]
theorem my_ints {us : List Value} {ns : List Int} (h : IntsAre us ns) : us.length = ns.length ∧ ∀ (i : Nat) (v : Value), us[i]? = some v → ∃ x t, v = Value.int x t := by
  induction h with
  | nil => exact ⟨rfl, fun _ _ h => nomatch h⟩
  | cons n t _ ih =>
    refine ⟨by simp [ih.1], fun i v hv => ?_⟩
    cases i with
    | zero => exact ⟨n, t, by simpa using hv.symm⟩
    | succ i => exact ih.2 i v (by simpa using hv)

section
local macro_rules | `(tactic| walk_at "call builtin:list.append") => `(tactic| refine hold ?_)
local macro_rules | `(tactic| walk_at "binaryOp Add str str") => `(tactic| (first | refine PyProof.Rows.add_str (hsz := nm_len1 _) ?_ | refine PyProof.Rows.add_str (hsz := nm_len2 _) ?_ | refine PyProof.Rows.add_str ?_; intro _ _))
local macro_rules | `(tactic| walk_at "subscriptTail") => `(tactic| (first | (refine my_pickI (by k_asm) (by k_dflt k_mem) (r3 _) (r3' _) ?_) | (refine my_pickS (by k_asm) (by k_dflt k_mem) tilde_S py_S (ts_S _) (r3 _) (r3' _) ?_) | (refine my_pickS (by k_asm) (by k_dflt k_mem) f_S rfl gh_S (r3 _) (r3' _) ?_); intro t'))
local macro_rules | `(tactic| walk_at "exec If") => `(tactic| refine hold ?_)
local macro_rules | `(tactic| walk_at "exec For Name Name cons nil") => `(tactic| refine hold ?_)
local macro_rules | `(tactic| walk_at "pyIter ref") => `(tactic| refine hold ?_)
local macro_rules | `(tactic| walk_at "call builtin:sum") => `(tactic| refine hold ?_)

set_option maxRecDepth 100000 in
set_option maxHeartbeats 8000000 in
theorem tcallers (w : World) (loose : List Str) (mean : ExcName → Option Value) (mg mb : Str → Option Value) : 
   PySem.Challenge.rw_mq0071_01.row.prog = PySem.Challenge.rw_mq0071_01.row.prog ∧ Mine.hd.heap_39 w.params = Mine.hd.heap_39 w.params ∧ Says w loose mean mg mb 56 1 clPre clPost := by
  k_fill
  refine ⟨rfl, rfl, ?_⟩
  unfold Says
  intro ns dp un gd cn cs' a ccd cl outer A₀ base h₀ L m s vs W Q E B F X T hk hW hpre hd hu hret
  obtain ⟨a1, us, un1, rfl, hl, hI, hlen⟩ := hpre
  have hgl : s.heap.IsList a1 us.toArray := ⟨_, hW _ _ hl, rfl, un1, rfl⟩
  refine wpAny_call ?_
  k_dflt (refine' enter (binds := [(Str.ofString "numbers", Value.ref a1)]) ?k1 ?k2 ?k3 ?k5 ?kA ?kF ?kK ?k6 ?k7 ?k8 ?k9 ?kB ?_ ?c2 ?c3 ?c4 ?c5; walk_at "mine.cases")
  intro L' h1 hL' F' N' B' X' T'
  dsimp only
  k_fold
  w_strict k_steps
  refine Hold.mk ?_
  k_dflt (refine' LSm.sum_ints (by k_asm) (by k_asm) rfl ?hl hI ?_; (case hl => exact hgl.at fun o e => F'.keep _ _ e))
  intro h2 tk2 t2 F2 N2
  w_strict k_steps
  refine Hold.mk (wpAny_mono (Q := SignEnd s.heap L' a1 s) (E := fun _ _ => False) (wpAny_If ?_) ?_ (fun _ _ x => x.elim))
  · w_strict k_steps
    · rename_i F0 N0
      rw [show Str.ofString "a" = S [97] from by decide +kernel, upd1S] at F0
      exact SignEnd.intro F0 (by k_asm) sg_a
    · refine SignEnd.intro (by k_asm) (by k_asm) (sg_of ?_ (by assumption) (by assumption))
      have h1 := Int.fmod_nonneg_of_pos ns.sum (b := 55296) (by decide)
      have h2 := Int.fmod_lt_of_pos ns.sum (b := 55296) (by decide)
      omega
    · rename_i F0 N0
      rw [show Str.ofString "a" = S [97] from by decide +kernel, upd1S] at F0
      exact SignEnd.intro F0 (by k_asm) sg_a
  · rintro fl s' ⟨rfl, sd, t3, h3, tk3, rfl, F3, N3, hs⟩
    dsimp only
    w_strict k_steps
    refine Hold.mk (wpAny_For ?_ (by intro _; rfl))
    w_strict k_steps
    refine Hold.mk ?_
    rename_i D hX hX1 hA FA NA
    refine iter_list (g := s.heap) (news := [(D, listOf #[] 0)]) rfl hgl (by k_asm) (by k_asm) ?_
      (fun i m₁ news₁ => ∃ us' k tl cs u1 u2 u3 u4, news₁ = (D, listOf (List.toArray us') k) :: tl ∧ (m₁ = fun y => if y = Str.ofString "name" then u1 else if y = Str.ofString "line" then u2 else if y = Str.ofString "file" then u3 else if y = Str.ofString "x" then u4
          else if y = Str.ofString "callers" then some (Value.ref D) else if y = Str.ofString "sign" then some (.str (S [sd]) t3) else List.lookup y [(Str.ofString "numbers", Value.ref a1)].reverse) ∧
        (∀ q ∈ tl, q.1 ≠ D) ∧ us'.length = i ∧ cs.length = i ∧ (∀ (j : Nat) (c : Clr), cs[j]? = some c → ∃ p : Addr, us'[j]? = some (Value.ref p) ∧ ClrAt (fun a o => (a, o) ∈ tl) c p) ∧ (∀ c ∈ cs, OkC c))
      ⟨[], 0, [], [], _, _, _, _, rfl, upd4s _, (fun _ h => nomatch h), rfl, rfl, (fun _ _ h => nomatch h), (fun _ h => nomatch h)⟩ ?_ ?_
    · intro I i s' v Q' st q
      cases v <;> first | exact wpAny_pure q | exact wpAny_letOwnedTupleGo_listiter st q
    · rintro i v m₁ news₁ h tk I ito hv ⟨us', k, tl, cs, u1, u2, u3, u4, rfl, rfl, htl, hu', hc', hcs, hok⟩ hne F₁ N₁
      have hDi : D ≠ I := hne _ (.head _)
      have htI : ∀ q ∈ tl, q.1 ≠ I := fun q hq => hne q (.tail _ hq)
      obtain ⟨x, tx0, rfl⟩ := (my_ints hI).2 i v (by simpa using hv)
      have hi10 : i < 10 := by
        have := (List.getElem?_eq_some_iff.mp (by simpa using hv : us[i]? = some _)).1
        have := (my_ints hI).1
        omega
      w_strict k_steps
      refine Hold.mk (name_if (by k_asm) (by k_asm) (nmOk sd x) (wpAny_If ?_) ?_)
      · w_strict k_steps
        · refine NameEnd.new (nm := [60] ++ nameOf sd x ++ [62]) (by k_asm) (by k_asm) (by rw [lt_S, gt_S, S_append, S_append]) (.inr rfl)
        · refine NameEnd.new (nm := [60] ++ nameOf sd x ++ [62]) (by k_asm) (by k_asm) (by rw [lt_S, gt_S, S_append, S_append]) (.inr rfl)
        · refine NameEnd.old (nm := nameOf sd x) (by k_asm) (by k_asm) rfl (.inl ⟨rfl, fun e => ?_⟩)
          rename_i hh
          exact hh e.2
        · refine NameEnd.old (nm := nameOf sd x) (by k_asm) (by k_asm) rfl (.inl ⟨rfl, fun e => ?_⟩)
          rename_i hh
          rw [show S (fileOf sd x) = S [126] from by rw [e.1], tilde_S] at hh
          simp at hh
      · intro nm t4 h4 tk4 hnm F4 N4
        w_strict k_steps
        refine Hold.mk (append_K (its := us'.toArray) (by k_asm) (by k_asm) (.tail (by k_ne) (.tail (by k_ne) (.tail (by k_ne) (.tail (by k_ne) (.tail (by k_ne) (.tail (Ne.symm hDi) (.head htl))))))) ?_ (hsz := by rw [sizeLine_eq, List.size_toArray, hu']; omega))
        intro h5 F5 N5
        w_strict k_steps
        rw [List.push_toArray] at N5
        refine GEnd.intro (by k_asm) (news_re N5) ?_ ⟨us' ++ [_], k + 1, _ :: _ :: tl, cs ++ [((fileOf sd x, lineOf x, nm), (x.fdiv 54).fmod 100 - 1)], _, _, _, _, rfl, upd5 _, ?_, by simp [hu'], by simp [hc'], ?_, ?_⟩
        · intro p hp
          simp only [List.mem_cons] at hp
          rcases hp with rfl | rfl | rfl | hp
          · exact hDi
          · k_ne
          · k_ne
          · exact htI p hp
        · intro p hp
          simp only [List.mem_cons] at hp
          rcases hp with rfl | rfl | hp
          · k_ne
          · k_ne
          · exact htl p hp
        · intro j c hj
          by_cases hjl : j < cs.length
          · rw [List.getElem?_append_left hjl] at hj
            obtain ⟨p, h1, h2⟩ := hcs j c hj
            exact ⟨p, by rw [List.getElem?_append_left (by omega)]; exact h1, h2.mono fun a o q => .tail _ (.tail _ q)⟩
          · have hjn : j = cs.length := by
              have := (List.getElem?_eq_some_iff.mp hj).1
              simp at this; omega
            subst hjn
            rw [List.getElem?_append_right (Nat.le_refl _), Nat.sub_self] at hj
            have : c = ((fileOf sd x, lineOf x, nm), (x.fdiv 54).fmod 100 - 1) := by simpa using hj.symm
            subst this
            exact ⟨_, by rw [List.getElem?_append_right (by omega), hc', hu', Nat.sub_self]; rfl, _, _, 0, .head _, _, _, _, 0, .tail _ (.head _)⟩
        · intro c hc
          rcases List.mem_append.mp hc with hc | hc
          · exact hok c hc
          · rw [List.mem_singleton.mp hc]; exact okc_of hs hnm
    · rintro h' tk m' news' F₁ N₁ ⟨us', k, tl, cs, u1, u2, u3, u4, rfl, rfl, htl, hu', hc', hcs, hok⟩
      dsimp only
      w_strict k_steps
      repeat (first | k_unfold | dsimp only)
      have hsz : us.toArray.size = ns.length := by simpa using (my_ints hI).1
      refine hret _ _ _ _ (Fr.keep (by k_asm)) (news_new (by k_asm)) ⟨D, cs, rfl, ⟨us', k, .inr (.head _), by omega, ?_⟩, hok, by omega⟩
      intro j c hj
      obtain ⟨p, h1, h2⟩ := hcs j c hj
      exact ⟨p, h1, h2.mono fun a o q => .inr (.tail _ q)⟩
end
end Mine
end

section
open PySem PySem.W PyProof.Rows PySem.Spec PySem.Calls PyProof.Rows.LCg
namespace Mine
local macro_rules | `(tactic| walk_at "mine.cases") => `(tactic| ((case kA => exact rfl); (case kF => exact rfl); (case kK => assumption); (case k1 => k_asm); (case k2 => k_asm); (case k3 => k_asm); (case k5 => k_asm); (case k6 => k_is); (case k7 => k_is); (case k8 => ktr_room); (case k9 => exact BindsTo.of_eq rfl); (case c5 => decide); (case kB => exact locs rfl); (case c2 => exact rfl); (case c3 => exact rfl); (case c4 => exact rfl); k_whole))

theorem useK {w : World} {loose : List Str} {mean : ExcName → Option Value} {mg mb : Str → Option Value} {f : Addr} {n : Nat} {D : Type} {Pre : Know → List Value → D → Prop} {Post : Know → Value → D → Prop} (C : Says w loose mean mg mb f n Pre Post) (d : D)
    {A A₀ : Around} {dp un : Nat} {gd : Option (List Code)} {cn : Str} {cs : Scope} {L a : Addr} {ccd : Value} {cl : List (Str × Addr)} {outer : List Env} {base h₀ : Heap} {m : Str → Option Value} {s : Shared} {vs : List Value} {W : Know} {news kn : List (Addr × Obj)} {Q E : Value → Shared → Prop}
    (hA : A = ktrTop dp un gd cn cs L a ccd cl outer) (B : Below A₀ base outer h₀) (F : Fr h₀ L s.heap m) (N : News h₀ L s.heap news) (X : (Mine.hd.heap_39 w.params).In h₀) (T : Top Mine.hd.view_39 loose mean mg mb h₀) (hk : cs.kind = .function)
    (hW : ∀ a o, W a o → h₀.get? a = some o) (hkn : ∀ p ∈ kn, p ∈ news) (hpre : Pre (W.add kn) vs d) (hd : dp + n < recursionLimit) (hu : un + 1000 * n < cLine)
    (h : ∀ r tl h' tk', Fr h₀ L h' m → News h₀ L h' (news ++ tl) → (∀ q ∈ tl, s.heap.get? q.1 = none) → Post (W.add (kn ++ tl)) r d → Q r { s with heap := h', toks := tk' }) (hmono : ∀ x y : Know, ∀ r, (∀ a o, x a o → y a o) → Post x r d → Post y r d) :
    wpAny (model PySem.Challenge.rw_mq0071_01.row.prog w) A (call (.ref f) vs) Q E s := by
  subst hA
  refine C d dp un gd cn cs a ccd cl outer A₀ base h₀ L m s vs (W.add kn) Q E B F X T hk ?_ hpre hd hu fun r tl h' tk' k1 k2 hp => ?_
  · rintro a o (q | q)
    · exact F.keep _ _ (hW _ _ q)
    · exact (N _ (hkn _ q)).1
  · refine h r tl h' tk' (fr_stays F k1) ?_ (fun q hq => (k2 q hq).2) (hmono _ _ r ?_ hp)
    · intro p hp
      exact news_stays F N k1 k2 p (by rcases List.mem_append.mp hp with q | q; exact List.mem_append.mpr (.inr q); exact List.mem_append.mpr (.inl q))
    · rintro a o ((q | q) | q)
      · exact .inl q
      · exact .inr (List.mem_append.mpr (.inl q))
      · exact .inr (List.mem_append.mpr (.inr q))

theorem use {w : World} {loose : List Str} {mean : ExcName → Option Value} {mg mb : Str → Option Value} {f : Addr} {n : Nat} {D : Type} {Pre : Know → List Value → D → Prop} {Post : Know → Value → D → Prop} (C : Says w loose mean mg mb f n Pre Post) (d : D)
    {A A₀ : Around} {dp un : Nat} {gd : Option (List Code)} {cn : Str} {cs : Scope} {L a : Addr} {ccd : Value} {cl : List (Str × Addr)} {outer : List Env} {base h₀ : Heap} {m : Str → Option Value} {s : Shared} {vs : List Value} {W : Know} {news : List (Addr × Obj)} {Q E : Value → Shared → Prop}
    (hA : A = ktrTop dp un gd cn cs L a ccd cl outer) (B : Below A₀ base outer h₀) (F : Fr h₀ L s.heap m) (N : News h₀ L s.heap news) (X : (Mine.hd.heap_39 w.params).In h₀) (T : Top Mine.hd.view_39 loose mean mg mb h₀) (hk : cs.kind = .function)
    (hW : ∀ a o, W a o → h₀.get? a = some o) (hpre : Pre (W.add news) vs d) (hd : dp + n < recursionLimit) (hu : un + 1000 * n < cLine)
    (h : ∀ r tl h' tk', Fr h₀ L h' m → News h₀ L h' (news ++ tl) → (∀ q ∈ tl, s.heap.get? q.1 = none) → Post (W.add (news ++ tl)) r d → Q r { s with heap := h', toks := tk' }) (hmono : ∀ x y : Know, ∀ r, (∀ a o, x a o → y a o) → Post x r d → Post y r d) :
    wpAny (model PySem.Challenge.rw_mq0071_01.row.prog w) A (call (.ref f) vs) Q E s :=
  useK C d hA B F N X T hk hW (fun _ q => q) hpre hd hu h hmono

theorem tup2_inj {a b c d : Value} {n m : Nat} (h : some (tupOf [a, b] n) = some (tupOf [c, d] m)) : a = c ∧ b = d := by
  have h2 : (a = c ∧ b = d) ∧ n = m := by simpa using h
  exact h2.1

theorem off_more {g h : Heap} {L I C D : Addr} {oI oC oD : Obj} {nw tl : List (Addr × Obj)} (N : News g L h ((I, oI) :: (C, oC) :: (D, oD) :: nw)) (off : Off3 I C D nw) (hfr : ∀ q ∈ tl, h.get? q.1 = none) : Off3 I C D (nw ++ tl) := by
  refine Off3.of fun p hp => ?_
  rcases List.mem_append.mp hp with hp | hp
  · exact off.mem p hp
  · have h1 := (N _ (.head _)).1
    have h2 := (N _ (.tail _ (.head _))).1
    have h3 := (N _ (.tail _ (.tail _ (.head _)))).1
    have hn := hfr p hp
    refine ⟨?_, ?_, ?_⟩ <;> intro e <;> rw [e] at hn
    · rw [hn] at h1; cases h1
    · rw [hn] at h2; cases h2
    · rw [hn] at h3; cases h3

def tbPre (W : Know) (vs : List Value) (cs : List Clr) : Prop := ∃ a, vs = [.ref a] ∧ CsAt W cs a ∧ cs.length ≤ 6 ∧ ∀ c ∈ cs, OkC c
def tbPost (w : World) (W : Know) (r : Value) (cs : List Clr) : Prop := ∃ a, r = .ref a ∧ TabAt PySem.Challenge.rw_mq0071_01.row.prog w W (tab cs) a

theorem told_len {c : Clr} (h : OkC c) : (told c.1).length ≤ 14 := by
  unfold told
  have h1 := tx_short h.lineB.1 h.lineB.2
  have h2 := h.short
  split
  · simp only [List.length_append, List.length_take, List.length_drop, List.length_cons, List.length_nil]; omega
  · simp only [List.length_append, List.length_cons, List.length_nil]; omega
theorem entry_len {c : Clr} (h : OkC c) : (entry c).length ≤ 16 := by
  unfold entry
  have h1 := tx_short h.count.1 h.count.2
  have h2 := told_len h
  rw [List.length_append]; omega
theorem page_len : ∀ {cs : List Clr}, (∀ c ∈ cs, OkC c) → (page cs).length ≤ 18 * cs.length
  | [], _ => by simp [page, jn]
  | [c], h => by
    have := entry_len (h c (.head _))
    simp only [page, List.map_cons, List.map_nil, jn, List.length_cons, List.length_nil]; omega
  | c :: d :: r, h => by
    have h1 := entry_len (h c (.head _))
    have h2 := page_len (cs := d :: r) fun x hx => h x (.tail _ hx)
    have e : page (c :: d :: r) = entry c ++ [10, 10] ++ page (d :: r) := by
      unfold page
      rw [List.map_cons, jn_cons _ _ (by simp)]
    rw [e]
    simp only [List.length_append, List.length_cons, List.length_nil] at h2 ⊢
    omega
theorem nn_S : Str.ofString "\n\n" = S [10, 10] := by decide +kernel
theorem br_S : Str.ofString "{" = S [123] := by decide +kernel
theorem rp_of {W : Know} {l : List Nat} {t t1 t2 t3 t4 t5 t6 t7 t8 t9 t10 : Tok} (h : l.length ≤ 400) : rpPre W [.str (S l) t, .str (Str.ofString ":") t1, .str (Str.ofString "\n\n") t2, .str (Str.ofString "(") t3, .str (Str.ofString "\n\n") t4, .str (Str.ofString ")") t5, .str (Str.ofString "\n\n") t6,
    .str (Str.ofString "{") t7, .str (Str.ofString "~\n\n0\n\n<") t8, .str (Str.ofString "}") t9, .str (Str.ofString ">\n\n") t10] l := by
  refine ⟨t, t1, t2, t3, t4, t5, t6, t7, t8, t9, t10, ?_, h⟩
  rw [nn_S, br_S, show Str.ofString ":" = S [58] from by decide +kernel, show Str.ofString "(" = S [40] from by decide +kernel, show Str.ofString ")" = S [41] from by decide +kernel, show Str.ofString "}" = S [125] from by decide +kernel,
    show Str.ofString "~\n\n0\n\n<" = S [126, 10, 10, 48, 10, 10, 60] from by decide +kernel, show Str.ofString ">\n\n" = S [62, 10, 10] from by decide +kernel]
theorem upd3s {x y z : Str} {a b c : Option Value} (m : Str → Option Value) (h1 : m x = a) (h2 : m y = b) (h3 : m z = c) : m = fun q => if q = x then a else if q = y then b else if q = z then c else m q := by
  funext q
  by_cases e1 : q = x
  · simp [e1, h1]
  · by_cases e2 : q = y
    · subst e2; simp [e1, h2]
    · by_cases e3 : q = z
      · subst e3; simp [e1, e2, h3]
      · simp [e1, e2, e3]
theorem upd4t {x y z u : Str} {a b c d : Option Value} (m : Str → Option Value) (h1 : m x = a) (h2 : m y = b) (h3 : m z = c) (h4 : m u = d) : m = fun q => if q = x then a else if q = y then b else if q = z then c else if q = u then d else m q := by
  funext q
  by_cases e1 : q = x
  · simp [e1, h1]
  · by_cases e2 : q = y
    · subst e2; simp [e1, h2]
    · by_cases e3 : q = z
      · subst e3; simp [e1, e2, h3]
      · by_cases e4 : q = u
        · subst e4; simp [e1, e2, e3, h4]
        · simp [e1, e2, e3, e4]
theorem parts_len {c : Clr} (h : OkC c) : (jn [10, 10] (parts c)).length ≤ 20 := by
  have h1 := tx_short h.lineB.1 h.lineB.2
  have h2 := tx_short h.count.1 h.count.2
  have h3 := h.short
  simp only [parts, jn, List.length_append, List.length_cons, List.length_nil]
  omega
theorem pieces_len : ∀ {cs : List Clr}, (∀ c ∈ cs, OkC c) → (jn [10, 10] (pieces cs)).length ≤ 22 * cs.length
  | [], _ => by simp [pieces, jn]
  | c :: r, h => by
    have h1 := parts_len (h c (.head _))
    have h2 := pieces_len (cs := r) fun x hx => h x (.tail _ hx)
    have e : pieces (c :: r) = parts c ++ pieces r := rfl
    rw [e]
    cases hr : pieces r with
    | nil => rw [List.append_nil]; simp only [List.length_cons]; omega
    | cons p q =>
      rw [jn_app _ (by simp [parts]) (by simp), ← hr]
      simp only [List.length_append, List.length_cons, List.length_nil]; omega
theorem jn_tail_len (sep p : List Nat) (r : List (List Nat)) : (jn sep r).length ≤ (jn sep (p :: r)).length := by
  cases r with
  | nil => simp [jn]
  | cons q r => rw [jn_cons sep p (r := q :: r) (by simp)]; simp only [List.length_append]; omega
theorem fresh_ne {g h : Heap} {L P : Addr} {o : Obj} {news tl : List (Addr × Obj)} (hfr : ∀ q ∈ tl, h.get? q.1 = none) (N : News g L h news) (hm : (P, o) ∈ news) : ∀ q ∈ tl, q.1 ≠ P := by
  intro q hq e
  have h1 := (N _ hm).1
  have h2 := hfr q hq
  rw [e] at h2
  dsimp only at h1
  rw [h1] at h2; cases h2
theorem jn_drop_len (sep : List Nat) : ∀ (ps : List (List Nat)) (j : Nat), (jn sep (ps.drop j)).length ≤ (jn sep ps).length
  | [], j => by simp
  | p :: r, 0 => by simp
  | p :: r, j + 1 => Nat.le_trans (jn_drop_len sep r j) (jn_tail_len sep p r)
theorem jn_cut (q : List Nat) : ∀ r : List (List Nat), (jn [10, 10] (q :: r)).drop (q.length + 2) = jn [10, 10] r
  | [] => by simp [jn]
  | p :: r => by rw [jn_cons _ q (r := p :: r) (by simp), List.append_assoc, ← List.drop_drop, List.drop_left]; rfl
theorem int_txB : ∀ n : Fin 100, PySem.intText? (S (tx ((n.val : Int) - 1))) = some ((n.val : Int) - 1) := by decide +kernel
theorem int_tx {i : Int} (h0 : -1 ≤ i) (h1 : i ≤ 98) : PySem.intText? (S (tx i)) = some i := by
  have := int_txB ⟨(i + 1).toNat, by omega⟩
  have e : (((i + 1).toNat : Nat) : Int) - 1 = i := by omega
  simpa only [e] using this
theorem len_tx {i : Int} (h0 : -1 ≤ i) (h1 : i ≤ 98) : (S (tx i)).length ≤ 640 := by
  rw [S_length]; have := tx_short h0 h1; omega
theorem merge_len : ∀ (s t : Tab), (merge t s).length ≤ t.length + s.length
  | [], t => by simp [merge]
  | c :: s, t => by
    have h := merge_len s (addTo t c.1 c.2)
    have h2 : (addTo t c.1 c.2).length ≤ t.length + 1 := by
      unfold addTo
      split
      · rw [List.length_map]; omega
      · simp
    show (merge (addTo t c.1 c.2) s).length ≤ _
    rw [List.length_cons]; omega
theorem tab_len (cs : List Clr) : (tab cs).length ≤ cs.length := by have := merge_len cs []; simpa [tab] using this
theorem drop4 {a b c i : Addr × Obj} {r : List (Addr × Obj)} : ∀ p ∈ a :: b :: c :: r, p ∈ a :: b :: c :: i :: r := by
  intro p hp
  simp only [List.mem_cons] at hp ⊢
  rcases hp with q | q | q | q <;> simp [q]
theorem news_pull {g h : Heap} {L : Addr} {a b c i : Addr × Obj} {r : List (Addr × Obj)} (N : News g L h (a :: b :: c :: i :: r)) : News g L h (i :: a :: b :: c :: r) := by
  intro p hp
  refine N p ?_
  simp only [List.mem_cons] at hp ⊢
  rcases hp with q | q | q | q | q <;> simp [q]
theorem str_cnt {prog : Program} {w : World} {A : Around} {E : Value → Shared → Prop} {s : Shared} {x y : Str} {t u : Tok} {Q : Value → Shared → Prop} {k : Int} (e : Txt.count x y = k) (hq : ∀ t' tk, Q (.int k t') { s with toks := tk }) : wpAny (model prog w) A (call (.builtin "str.count") [.str x t, .str y u]) Q E s := by
  skip
  all_goals exact SC.count (by rw [e]; exact hq _ _)

section
local macro_rules | `(tactic| walk_at "eval Dict") => `(tactic| (refine my_dict1 (by k_asm) (by k_asm) (Top.nolimit (by k_asm)) (by with_unfolding_all rfl) (by with_unfolding_all rfl) (List.cons_ne_nil _ _) (by with_unfolding_all decide) ?_; intro D' h' F' N' lo' l1))
local macro_rules | `(tactic| walk_at "call builtin:list.append") => `(tactic| refine hold ?_)
local macro_rules | `(tactic| walk_at "call type:int") => `(tactic| refine hold ?_)
local macro_rules | `(tactic| walk_at "assign Tuple") => `(tactic| refine hold ?_)
local macro_rules | `(tactic| walk_at "subscriptTail Name Slice ref ref") => `(tactic| (k_dflt (refine' my_tup_upto2 ?F ?N ?l ?_ ?s ?t; (case F => k_asm); (case N => k_asm); (case l => exact Fr.tup (by k_asm) (by k_asm)); (case s => with_unfolding_all rfl); (case t => kmk_pure)); intro D' h' F' N'))
local macro_rules | `(tactic| walk_at "eval Dict nil nil") => `(tactic| (refine my_dict_nil (by k_asm) (by k_asm) (Top.nolimit (by k_asm)) ?_; intro D' ep' h' F' N' l1 lo'))
local macro_rules | `(tactic| walk_at "compareOp Eq ref ref") => `(tactic| refine hold ?_)
local macro_rules | `(tactic| walk_at "call builtin:len") => `(tactic| refine hold ?_)
local macro_rules | `(tactic| walk_at "binaryOp Add str str") => `(tactic| refine hold ?_)
local macro_rules | `(tactic| walk_at "call builtin:str.join") => `(tactic| refine hold ?_)
local macro_rules | `(tactic| walk_at "call builtin:str.count") => `(tactic| refine hold ?_)
local macro_rules | `(tactic| walk_at "exec For Name Call cons nil") => `(tactic| refine hold ?_)
local macro_rules | `(tactic| walk_at "pyIter ref") => `(tactic| refine hold ?_)
local macro_rules | `(tactic| walk_at "eval ListComp") => `(tactic| refine hold ?_)
local macro_rules | `(tactic| walk_at "call ref") => `(tactic| refine hold ?_)
local macro_rules | `(tactic| walk_at "subscriptTail Name Constant ref int") => `(tactic| ((with_reducible show wpAny _ _ (subscriptTail _ _ (Value.ref _) (Value.int _ _)) _ _ _); (with_unfolding_all refine' item_litK ?k1 ?k2 ?k3 ?k4 ?_ ?k6; (case k1 => is_list); (case k2 => decide); (case k3 => decide); (case k4 => rfl); (case k6 => with_unfolding_all rfl); k_whole)))

set_option maxRecDepth 100000 in
set_option maxHeartbeats 8000000 in
theorem ttable (w : World) (loose : List Str) (mean : ExcName → Option Value) (mg mb : Str → Option Value) : 
   PySem.Challenge.rw_mq0071_01.row.prog = PySem.Challenge.rw_mq0071_01.row.prog ∧ Mine.hd.heap_39 w.params = Mine.hd.heap_39 w.params ∧ Says w loose mean mg mb 61 2 tbPre (tbPost w) := by
  have c1 := (tfunc w loose mean mg mb).2.2
  have c2 := (treplace w loose mean mg mb).2.2
  have c3 := (tsplit w loose mean mg mb).2.2
  have c4 := (tadd w loose mean mg mb).2.2
  k_fill
  refine ⟨rfl, rfl, ?_⟩
  unfold Says
  intro cs dp un gd cn cs' a ccd cl outer A₀ base h₀ L m s vs W Q E B F X T hk hW hpre hd hu hret
  obtain ⟨a1, rfl, ⟨ws, wn, hl, hlen, hcs⟩, hcl, hok⟩ := hpre
  have hgl : s.heap.IsList a1 ws.toArray := ⟨_, hW _ _ hl, rfl, wn, rfl⟩
  refine wpAny_call ?_
  k_dflt (refine' enter (binds := [(Str.ofString "callers", Value.ref a1)]) ?k1 ?k2 ?k3 ?k5 ?kA ?kF ?kK ?k6 ?k7 ?k8 ?k9 ?kB ?_ ?c2 ?c3 ?c4 ?c5; walk_at "mine.cases")
  intro L' h1 hL' F' N' B' X' T'
  dsimp only
  k_fold
  have hit : ∀ (i : Nat) v, ws.toArray[i]? = some v → ∃ t v₁ v₂ n, v = Value.ref t ∧ s.heap.get? t = some (tupOf [v₁, v₂] n) := by
    intro i v hv
    have hv' : ws[i]? = some v := by simpa using hv
    have hi : i < cs.length := by have := (List.getElem?_eq_some_iff.mp hv').1; omega
    obtain ⟨p, hp, b, tk, n, h1, h2⟩ := hcs i cs[i] (by simp [hi])
    rw [hp] at hv'
    exact ⟨p, _, _, _, (Option.some.inj hv').symm, hW _ _ h1⟩
  have hsz : ws.toArray.size ≤ sizeLine := by rw [sizeLine_eq, List.size_toArray]; omega
  w_strict k_steps
  refine Hold.mk (my_comp (its := ws.toArray) rfl (by k_asm) (by k_asm) hgl hsz ?_ hit
    (fun i ys nw => ∃ l : List (Str × Tok), ys = strValues l ∧ l.map (·.1) = (cs.take i).map (fun c => S (entry c))) ⟨[], rfl, rfl⟩ ?_ ?_ ?_ (by rfl) (by decide) (by rfl) (by decide) (by rfl) (by rfl) (by decide))
  · intro Q' E' q
    w_strict k_steps
    exact q
  · rintro i ys nw ⟨l, rfl, hl⟩
    have := congrArg List.length hl
    simp at this
    simp [strValues]; omega
  · rintro i t v₁ v₂ n hv ht ys nw I oI C oC D m₂ h tk ⟨l, rfl, hl⟩ hC h1 h2 F₁ N₁ off ⟨n1, n2, n3⟩
    refine wpAny_tests_nil ?_
    rw [if_pos rfl]
    have hv' : ws[i]? = some (.ref t) := by simpa using hv
    have hi : i < cs.length := by have := (List.getElem?_eq_some_iff.mp hv').1; omega
    obtain ⟨p, hp, b, tkc, n', hp1, hkey⟩ := hcs i cs[i] (by simp [hi])
    have hpt : p = t := by rw [hp] at hv'; simpa using hv'
    subst hpt
    have hokc := hok cs[i] (List.getElem_mem hi)
    have htk : cs.take (i + 1) = cs.take i ++ [cs[i]] := by rw [List.take_add_one, List.getElem?_eq_getElem hi]; rfl
    rw [htk]
    generalize cs[i] = c at hp1 hkey hokc
    obtain ⟨rfl, rfl⟩ := tup2_inj (ht.symm.trans (hW _ _ hp1))
    w_strict k_steps
    refine Hold.mk (use c1 c rfl B' F₁ N₁ X' T' rfl hW ⟨b, rfl, hkey.mono fun _ _ q => .inl q, hokc⟩ (by ktr_room) (by ktr_units) ?_ (fun x y r _ q => q))
    rintro r tl h2 tk2 F₂ N₂ hfr ⟨t2, rfl⟩
    simp only [List.cons_append] at N₂
    have hc0 : -1 ≤ c.2 := hokc.count.1
    have hc1 : c.2 ≤ 98 := hokc.count.2
    w_strict k_steps
    refine Hold.mk (PyProof.Rows.add_str (hsz := by rw [sizeLine_eq, ← S_tx, S_length, S_length]; have := told_len hokc; have := tx_short hc0 hc1; omega) ?_)
    intro t5 k5
    w_strict k_steps
    refine CompEnd.intro F₂ N₂ (nw ++ tl) (fun p hp => hp) (off_more N₁ off hfr) trivial ⟨l ++ [(S (entry c), t5)], ?_, ?_⟩
    · rw [← S_tx, S_append]; simp [strValues, entry]
    · rw [List.map_append, hl, List.map_append]; rfl
  · rintro D h tk ys nw ⟨l, rfl, hl⟩ F₁ N₁ off
    rw [List.take_of_length_le (by rw [List.size_toArray]; omega)] at hl
    w_strict k_steps
    have hpl := page_len hok
    refine Hold.mk (my_join (sep := [10, 10]) (ps := cs.map entry) (l := l) (by k_asm) nn_S (by k_dflt k_mem) (by rw [hl, List.map_map]; rfl) (by show (page cs).length + 2 ≤ _; omega) ?_)
    intro t3 k3
    w_strict k_steps
    refine Hold.mk (str_cnt (k := ((cs.filter fun c => isTop c.1).length : Nat)) (by rw [br_S, count_S (by decide)]; exact congrArg Int.ofNat (count_page hok)) ?_)
    intro t4 k4
    w_strict k_steps
    refine Hold.mk (my_comp (its := ws.toArray) rfl (by k_asm) (by k_asm) hgl hsz ?_ hit
      (fun i ys nw => ys.length = ((cs.take i).filter fun c => isTop c.1).length) rfl ?_ ?_ ?_ (by rfl) (by decide) (by rfl) (by decide) (by rfl) (by rfl) (by decide))
    · intro Q' E' q
      w_strict k_steps
      exact q
    · intro i ys nw hys
      have h1 := List.length_filter_le (fun c : Clr => isTop c.1) (cs.take i)
      have h2 := List.length_take_le i cs
      omega
    · rintro i t v₁ v₂ n hv ht ys nw2 I oI C oC D2 m₂ h tk hys hC h1 h2 F₁ N₁ off ⟨n1, n2, n3⟩
      have hv' : ws[i]? = some (.ref t) := by simpa using hv
      have hi : i < cs.length := by have := (List.getElem?_eq_some_iff.mp hv').1; omega
      obtain ⟨p, hp, b, tkc, n', hp1, hkey⟩ := hcs i cs[i] (by simp [hi])
      have hpt : p = t := by rw [hp] at hv'; simpa using hv'
      subst hpt
      have htk : cs.take (i + 1) = cs.take i ++ [cs[i]] := by rw [List.take_add_one, List.getElem?_eq_getElem hi]; rfl
      simp only [htk, List.filter_append, List.length_append]
      have hokc := hok cs[i] (List.getElem_mem hi)
      generalize cs[i] = c at hp1 hkey hokc
      obtain ⟨rfl, rfl⟩ := tup2_inj (ht.symm.trans (hW _ _ hp1))
      refine wpAny_tests_one ?_
      obtain ⟨⟨f, l, g⟩, v⟩ := c
      obtain ⟨u1, u2, u3, nk, hb⟩ := hkey
      dsimp only at hb h2 hokc
      have hT : IsTup s.heap b #[.str (S f) u1, .int l u2, .str (S g) u3] := ⟨_, hW _ _ hb, rfl, nk, rfl⟩
      w_strict k_steps
      refine Hold.mk ?_
      refine my_eq2 (by k_asm) (by k_dflt k_mem) (by k_dflt k_mem) (strOk_S hokc.small.1) (by decide +kernel) (by ktr_units) (top_eq (f, l, g)) ?_
      cases ht : isTop (f, l, g) with
      | false =>
        w_strict k_steps
        exact CompEnd.intro (by k_asm) (by k_asm) nw2 (fun p hp => .tail _ (.tail _ hp)) off trivial (by rw [hys, List.filter_cons_of_neg (by simp [ht])]; rfl)
      | true =>
        w_strict k_steps
        exact CompEnd.intro (by k_asm) (by k_asm) nw2 (fun p hp => .tail _ (.tail _ hp)) off trivial (by rw [hys, List.filter_cons_of_pos (by simp [ht])]; rfl)
    · rintro D2 h5 tk5 ys nw2 hys F5 N5 off5
      rw [List.take_of_length_le (by rw [List.size_toArray]; omega)] at hys
      w_strict k_steps
      have hfl := List.length_filter_le (fun c : Clr => isTop c.1) cs
      refine Hold.mk (my_len (by k_asm) (by k_dflt k_mem) hys (by omega) ?_)
      w_strict k_steps
      · exfalso; omega
      refine Hold.mk (use c2 (page cs) rfl B' (by k_asm) (by k_asm) X' T' rfl hW (rp_of (l := page cs) (by omega)) (by ktr_room) (by ktr_units) ?_ (fun x y r _ q => q))
      rintro r tl6 h6 tk6 F6 N6 hfr6 ⟨t6, rfl⟩
      rw [sg_page hok]
      clear hfr6
      simp only [List.cons_append] at N6
      w_strict k_steps
      refine Hold.mk (wpAny_For ?_ (by intro _; rfl))
      w_strict k_steps
      refine Hold.mk (PySem.Calls.call_len_list (items := ws.toArray) (hgl.at fun o e => Fr.keep (by k_asm) _ _ e) (by rw [List.size_toArray]; omega) ?_)
      w_strict k_steps
      refine Hold.mk ?_
      rename_i D0 ep0 h0 _ lo0 _ _ _ _ _ _ _ _ _ _ _ _
      refine iter_range (g := s.heap) (n := ws.toArray.size) (r := _) (news := (D0, dictObj (ents _ w []) ep0) :: (D2, lst ys) :: (nw2 ++ tl6)) rfl (by assumption) (by rw [List.size_toArray]; omega) (by k_asm) (by k_asm)
        (fun i m₁ news₁ => ∃ (T : Addr) (tp : Tok) (m₀ : Str → Option Value), (m₁ = fun y => if y = Str.ofString "table" then some (Value.ref T) else if y = Str.ofString "page" then some (.str (S (jn [10, 10] (pieces (cs.drop i)))) tp) else if y = Str.ofString "callers" then some (Value.ref a1) else m₀ y) ∧
          TabAt PySem.Challenge.rw_mq0071_01.row.prog w (W.add news₁) (tab (cs.take i)) T)
        ⟨D0, t6, _, upd3s _ rfl rfl rfl, ⟨lo0, [], ep0, rfl, .inr (.head _), List.nodup_nil, (fun _ h => nomatch h)⟩⟩ ?_ ?_
      · rintro i t m₁ news₁ h tk I ito hi ⟨T, tp, m₀, rfl, hT⟩ hne F₁ N₁
        have hics : i < cs.length := by rw [List.size_toArray] at hi; omega
        have hdr : cs.drop i = cs[i] :: cs.drop (i + 1) := List.drop_eq_getElem_cons hics
        have hpc : pieces (cs.drop i) = parts cs[i] ++ pieces (cs.drop (i + 1)) := by rw [hdr]; rfl
        have htk : tab (cs.take (i + 1)) = merge (tab (cs.take i)) [cs[i]] := by
          unfold tab
          rw [List.take_add_one, List.getElem?_eq_getElem hics, merge_append]; rfl
        have hokc := hok cs[i] (List.getElem_mem hics)
        have hokm := pieces_ok (cs := cs.drop i) fun c hc => hok c (List.mem_of_mem_drop hc)
        have hplm := page_len (cs := cs.drop i) fun c hc => hok c (List.mem_of_mem_drop hc)
        have hpcs := pieces_len (cs := cs.drop i) fun c hc => hok c (List.mem_of_mem_drop hc)
        rw [hpc] at hokm hpcs
        rw [hpc] at F₁
        obtain ⟨c, hc⟩ : ∃ c, c = cs[i] := ⟨_, rfl⟩
        obtain ⟨more, hmore⟩ : ∃ q, q = pieces (cs.drop (i + 1)) := ⟨_, rfl⟩
        rw [← hc, ← hmore] at F₁ hokm hpcs
        rw [← hc] at hokc htk
        w_strict k_steps
        refine Hold.mk (wpAny_For ?_ (by intro _; rfl))
        w_strict k_steps
        refine Hold.mk ?_
        rename_i P _ lP _ _ _ _ _ _ _ _ _ _ _ _
        refine iter_range (g := s.heap) (n := 4) (news := (P, listOf #[] 0) :: (I, ito) :: news₁) rfl (by assumption) (by decide) (by k_asm) (by k_asm)
          (fun j m₁ news₂ => ∃ (l : List (Str × Tok)) (k : Nat) (tl : List (Addr × Obj)) (t : Tok) (m₀ : Str → Option Value), news₂ = (P, listOf (strValues l).toArray k) :: (I, ito) :: (news₁ ++ tl) ∧
            (m₁ = fun y => if y = Str.ofString "parts" then some (Value.ref P) else if y = Str.ofString "page" then some (.str (S (jn [10, 10] ((parts c ++ more).drop j))) t) else if y = Str.ofString "table" then some (Value.ref T) else if y = Str.ofString "callers" then some (Value.ref a1) else m₀ y) ∧
            l.map (·.1) = ((parts c).take j).map S ∧ (∀ q ∈ news₁ ++ tl, q.1 ≠ P) ∧ (∀ q ∈ tl, q.1 ≠ I))
          ⟨[], 0, [], tp, _, by simp [strValues], upd4t _ rfl rfl rfl rfl, rfl, ?_, (fun _ h => nomatch h)⟩ ?_ ?_
        · intro q hq
          exact Nat.ne_of_lt (tb_ltOf lP.2 q (by simpa using hq))
        · rintro j tj m₂ news₂ h2 tk2 I2 ito2 hj ⟨l, k, tl, t2, m₀', rfl, rfl, hl2, hnP, hnI⟩ hne2 F₂ N₂
          have hpl4 : (parts c).length = 4 := rfl
          have hjl : j < (parts c ++ more).length := by rw [List.length_append]; omega
          obtain ⟨q0, hq0⟩ : ∃ q0, q0 = (parts c)[j]'(by omega) := ⟨_, rfl⟩
          obtain ⟨rest, hrest⟩ : ∃ rest, rest = (parts c ++ more).drop (j + 1) := ⟨_, rfl⟩
          have hd0 : (parts c ++ more).drop j = q0 :: rest := by
            rw [List.drop_eq_getElem_cons hjl, List.getElem_append_left (by omega), ← hq0, ← hrest]
          have htk1 : (parts c).take (j + 1) = (parts c).take j ++ [q0] := by rw [List.take_add_one, List.getElem?_eq_getElem (by omega), ← hq0]; rfl
          have hok0 : ∀ x ∈ q0 :: rest, OkS x := fun x hx => hokm x (List.mem_of_mem_drop (hd0 ▸ hx))
          have hlen0 : (jn [10, 10] (q0 :: rest)).length ≤ 200 := by
            have h1 := jn_drop_len [10, 10] (parts c ++ more) j
            rw [hd0] at h1
            have h2 : (cs.drop i).length ≤ 6 := by rw [List.length_drop]; omega
            omega
          rw [hd0] at F₂
          rw [← hrest]
          w_strict k_steps
          refine Hold.mk (use c3 (q0, rest) rfl B' (by k_asm) (by k_asm) X' T' rfl hW ⟨_, rfl, hok0, by dsimp only; omega⟩ (by ktr_room) (by ktr_units) ?_ (fun x y r h ⟨a, n, t1, t2, e, q⟩ => ⟨a, n, t1, t2, e, h _ _ q⟩))
          rintro r tl7 h7 tk7 F7 N7 hfr7 ⟨a7, n7, t7, t8, rfl, hob⟩
          dsimp only at hob
          have hob7 : h7.get? a7 = some (tupOf [.str (S q0) t7, .str (S (jn [10, 10] rest)) t8] n7) := by
            rcases hob with q | q
            · exact F7.keep _ _ (hW _ _ q)
            · exact (N7 _ q).1
          clear hob
          simp only [List.cons_append] at N7
          have hnP7 := fresh_ne (P := P) hfr7 (by k_asm) (.tail _ (.head _))
          have hnI7 := fresh_ne (P := I2) hfr7 (by k_asm) (.head _)
          have hnJ7 := fresh_ne (P := I) hfr7 (by k_asm) (.tail _ (.tail _ (.head _)))
          clear hfr7
          w_strict k_steps
          refine Hold.mk (assign2 rfl F7 N7 hob7 rfl rfl rfl ?_)
          intro h8 tk8 F8 N8
          have hszp : (S (jn [10, 10] (q0 :: rest))).length ≤ sizeLine := by rw [S_length, sizeLine_eq]; omega
          have hszq : (S q0).length ≤ 200 := by rw [S_length]; exact Nat.le_trans (join_len_le (.head _)) hlen0
          have hcut : ∀ i : Int, i = ((S q0).length : Int) + 2 → Txt.slice (S (jn [10, 10] (q0 :: rest))) (some i) none = S (jn [10, 10] rest) := by
            intro i hi
            rw [slice_drop (k := q0.length + 2) (by rw [hi, S_length]; rfl), jn_cut]
          w_strict k_steps
          refine Hold.mk (SBL.len (by omega) ?_)
          have hPI2 : P ≠ I2 := hne2 _ (.head _)
          w_strict k_steps
          · exfalso
            rename (_ != _) = true => hh
            rw [hcut _ rfl] at hh
            simp at hh
          · refine Hold.mk (append_K (its := (strValues l).toArray) (by k_asm) (by k_asm) (.tail (Ne.symm hPI2) (.head ?_)) ?_ (hsz := ?_))
            · intro q hq
              rcases List.mem_cons.mp hq with rfl | hq
              · exact Nat.ne_of_lt lP.1
              · rcases List.mem_append.mp hq with hq | hq
                · exact hnP q hq
                · exact hnP7 q hq
            · intro h9 F9 N9
              rw [List.push_toArray] at N9
              w_strict k_steps
              refine GEnd.intro (by k_asm) (by k_asm) ?_ ⟨l ++ [(S q0, t7)], k + 1, tl ++ tl7, _, _, by simp [strValues], upd4t _ rfl rfl rfl rfl, ?_, ?_, ?_⟩
              · intro q hq
                rcases List.mem_cons.mp hq with rfl | hq
                · exact hPI2
                · rcases List.mem_cons.mp hq with rfl | hq
                  · exact hne2 _ (.tail _ (.head _))
                  · rcases List.mem_append.mp hq with hq | hq
                    · exact hne2 q (.tail _ (.tail _ hq))
                    · exact hnI7 q hq
              · rw [List.map_append, hl2, htk1, List.map_append]; rfl
              · intro q hq
                rw [← List.append_assoc] at hq
                rcases List.mem_append.mp hq with hq | hq
                · exact hnP q hq
                · exact hnP7 q hq
              · intro q hq
                rcases List.mem_append.mp hq with hq | hq
                · exact hnI q hq
                · exact hnJ7 q hq
            · have := congrArg List.length hl2
              simp at this
              rw [sizeLine_eq, List.size_toArray]
              simp [strValues]; omega
        · rintro h2 tk2 m₂ news₂ F₂ N₂ ⟨l, k, tl, t2, m₀', rfl, rfl, hl2, hnP, hnI⟩
          dsimp only
          have hl4 : l.map (·.1) = [S c.1.1, S (tx c.1.2.1), S c.1.2.2, S (tx c.2)] := by rw [hl2]; rfl
          obtain ⟨u0, l0, rfl, e0⟩ := KSpl.cons_of hl4
          obtain ⟨u1, l1, rfl, e1⟩ := KSpl.cons_of e0
          obtain ⟨u2, l2, rfl, e2⟩ := KSpl.cons_of e1
          obtain ⟨u3, l3, rfl, e3⟩ := KSpl.cons_of e2
          obtain rfl : l3 = [] := by simpa using e3
          simp only [strValues, List.map_cons, List.map_nil] at N₂
          have hTm : TabAt PySem.Challenge.rw_mq0071_01.row.prog w (W.add (news₁ ++ tl)) (tab (cs.take i)) T := hT.mono fun a o q => q.elim .inl fun q => .inr (List.mem_append.mpr (.inl q))
          w_strict k_steps
          refine Hold.mk (KIN.call_text (int_tx hokc.lineB.1 hokc.lineB.2) (len_tx hokc.lineB.1 hokc.lineB.2) ?_)
          w_strict k_steps
          refine Hold.mk (KIN.call_text (int_tx hokc.count.1 hokc.count.2) (len_tx hokc.count.1 hokc.count.2) ?_)
          w_strict k_steps
          rename_i D3 _ lo3 l13 K3 _ _ _ _
          refine Hold.mk (my_store1 (k := c.1) (by ktr_units) (by k_asm) (by k_asm) (.tail ?_ (.head ?_)) ⟨_, _, _, 0, .head _⟩ ?_)
          · k_ne
          · intro q hq
            exact Nat.ne_of_lt (l13 q hq)
          intro h4 ep4 tk4 F4 N4
          dsimp only at N4
          have hKI : K3 ≠ I := by k_ne
          have hDI : D3 ≠ I := Nat.ne_of_gt (l13 _ (.tail _ (.head _)))
          have hPI : P ≠ I := Nat.ne_of_gt lP.1
          have htl := tab_len (cs.take i)
          rw [List.length_take] at htl
          w_strict k_steps
          refine Hold.mk (useK (kn := (K3, _) :: (D3, _) :: (P, _) :: (news₁ ++ tl)) c4 (tab (cs.take i), [(c.1, c.2)]) rfl B' (by k_asm) N4 X' T' rfl hW drop4 ⟨T, D3, rfl, hTm.mono ?_, ⟨lo3, [(c.1, c.2, K3, _)], ep4, rfl, .inr (.tail _ (.head _)), by simp, ?_⟩, ?_⟩ (by ktr_room) (by ktr_units) ?_
            (fun x y r h ⟨a, e, q⟩ => ⟨a, e, q.mono h⟩))
          · rintro a o (q | q)
            · exact .inl q
            · exact .inr (.tail _ (.tail _ (.tail _ q)))
          · intro x hx
            rw [List.mem_singleton.mp hx]
            exact ⟨_, _, _, 0, .inr (.head _)⟩
          · dsimp only [List.length_singleton]; omega
          rintro r tl9 h9 tk9 F9 N9 hfr9 ⟨T9, rfl, hT9⟩
          have hnI9 := fresh_ne (P := I) hfr9 (by k_asm) (.tail _ (.tail _ (.tail _ (.head _))))
          clear hfr9
          dsimp only at hT9
          simp only [List.cons_append] at N9 hT9
          w_strict k_steps
          rw [← hmore, htk]
          rename_i F10 N10
          refine GEnd.intro F10 (news_pull N10) ?_ ⟨T9, t2, _, upd3s _ rfl rfl rfl, hT9.mono ?_⟩
          · intro q hq
            simp only [List.mem_cons, List.mem_append] at hq
            rcases hq with rfl | rfl | rfl | (hq | hq) | hq
            · exact hKI
            · exact hDI
            · exact hPI
            · exact hne q hq
            · exact hnI q hq
            · exact hnI9 q hq
          · exact fun a o q => q
      · rintro h9 tk9 m₉ news₉ F9 N9 ⟨T, tp, m₀, rfl, hT⟩
        rw [List.take_of_length_le (by rw [List.size_toArray]; omega)] at hT
        dsimp only
        w_strict k_steps
        repeat (first | k_unfold | dsimp only)
        exact hret _ _ _ _ (Fr.keep (by k_asm)) (news_new (by k_asm)) ⟨T, rfl, hT⟩
end
end Mine
end

section
open PySem PySem.W PyProof.Rows PySem.Spec PySem.Calls PyProof.Rows.LCg
namespace Mine
abbrev No : Know := fun _ _ => False
theorem add_more {news tl : List (Addr × Obj)} : ∀ a o, No.add news a o → No.add (news ++ tl) a o := fun _ _ q => q.elim (fun z => z.elim) fun z => .inr (List.mem_append.mpr (.inl z))
theorem cl_mono (d : List Int) : ∀ x y : Know, ∀ r, (∀ a o, x a o → y a o) → clPost x r d → clPost y r d := fun _ _ _ h ⟨a, cs, e, q, u⟩ => ⟨a, cs, e, q.mono h, u⟩
theorem lg_mono (d : List Clr) : ∀ x y : Know, ∀ r, (∀ a o, x a o → y a o) → lgPost x r d → lgPost y r d := fun _ _ _ h ⟨a, e, q⟩ => ⟨a, e, q.mono h⟩
theorem tb_mono (w : World) (d : List Clr) : ∀ x y : Know, ∀ r, (∀ a o, x a o → y a o) → tbPost w x r d → tbPost w y r d := fun _ _ _ h ⟨a, e, q⟩ => ⟨a, e, q.mono h⟩
theorem ac_mono (w : World) (d : Tab × Tab) : ∀ x y : Know, ∀ r, (∀ a o, x a o → y a o) → acPost w x r d → acPost w y r d := fun _ _ _ h ⟨a, e, q⟩ => ⟨a, e, q.mono h⟩
theorem cc_mono (d : Tab) : ∀ x y : Know, ∀ r, (∀ a o, x a o → y a o) → ccPost x r d → ccPost y r d := fun _ _ _ _ q => q
theorem News.mono_tail {g h : Heap} {L : Addr} {a : Addr × Obj} {tl news : List (Addr × Obj)} (N : News g L h (tl ++ a :: news)) : News g L h news := fun p hp => N p (List.mem_append.mpr (.inr (.tail _ hp)))
theorem add_sub {news nw : List (Addr × Obj)} (h : ∀ p ∈ news, p ∈ nw) : ∀ x o, No.add news x o → No.add nw x o := fun _ _ q => q.elim (fun z => z.elim) fun z => .inr (h _ z)
theorem ints_snoc {us : List Value} {ns : List Int} (h : IntsAre us ns) (n : Int) (t : Tok) : IntsAre (us ++ [.int n t]) (ns ++ [n]) := by
  induction h with
  | nil => exact .cons n t .nil
  | cons m u _ ih => exact .cons m u ih
theorem upd2s {x y : Str} {a b : Option Value} (m : Str → Option Value) (h1 : m x = a) (h2 : m y = b) : m = fun q => if q = x then a else if q = y then b else m q := by
  funext q
  by_cases e1 : q = x
  · simp [e1, h1]
  · by_cases e2 : q = y
    · subst e2; simp [e1, h2]
    · simp [e1, e2]
theorem hcs_sub {nw news : List (Addr × Obj)} {cs : List Clr} {ws : List Value} (h : ∀ p ∈ nw, p ∈ news) (k : ∀ (i : Nat) (c : Clr), cs[i]? = some c → ∃ p : Addr, ws[i]? = some (Value.ref p) ∧ ClrAt (No.add nw) c p) :
    ∀ (i : Nat) (c : Clr), cs[i]? = some c → ∃ p : Addr, ws[i]? = some (Value.ref p) ∧ ClrAt (No.add news) c p := fun i c hc => let ⟨p, hp, x⟩ := k i c hc; ⟨p, hp, x.mono (add_sub h)⟩
theorem cs_take {news : List (Addr × Obj)} {a b : Addr × Obj} {cs : List Clr} {ws : List Value} {k : Nat} (h : ∀ (i : Nat) (c : Clr), cs[i]? = some c → ∃ p : Addr, ws[i]? = some (Value.ref p) ∧ ClrAt (No.add news) c p) :
    ∀ (i : Nat) (c : Clr), (cs.take k)[i]? = some c → ∃ p : Addr, (ws.take k)[i]? = some (Value.ref p) ∧ ClrAt (No.add (a :: b :: news)) c p := by
  intro i c hc
  have hi : i < k := by
    have := (List.getElem?_eq_some_iff.mp hc).1
    rw [List.length_take] at this; omega
  rw [List.getElem?_take_of_lt hi] at hc
  obtain ⟨p, hp, x⟩ := h i c hc
  exact ⟨p, by rw [List.getElem?_take_of_lt hi]; exact hp, x.mono (add_sub fun q hq => .tail _ (.tail _ hq))⟩
theorem cs_drop {news : List (Addr × Obj)} {a : Addr × Obj} {cs : List Clr} {ws : List Value} {k : Nat} (h : ∀ (i : Nat) (c : Clr), cs[i]? = some c → ∃ p : Addr, ws[i]? = some (Value.ref p) ∧ ClrAt (No.add news) c p) :
    ∀ (i : Nat) (c : Clr), (cs.drop k)[i]? = some c → ∃ p : Addr, (ws.drop k)[i]? = some (Value.ref p) ∧ ClrAt (No.add (a :: news)) c p := by
  intro i c hc
  rw [List.getElem?_drop] at hc
  obtain ⟨p, hp, x⟩ := h _ c hc
  exact ⟨p, by rw [List.getElem?_drop]; exact hp, x.mono (add_sub fun q hq => .tail _ hq)⟩
theorem no_get {g h : Heap} {L : Addr} {news : List (Addr × Obj)} (N : News g L h news) : ∀ a o, No.add news a o → h.get? a = some o := fun _ _ q => q.elim (fun z => z.elim) fun z => (N _ z).1
section
local macro_rules | `(tactic| walk_at "mine.mem") => `(tactic| first | assumption | exact .head _ | exact .tail _ (by assumption) | exact List.mem_append.mpr (.inr (by assumption)) | exact List.mem_append.mpr (.inr (.tail _ (by assumption))))
local macro_rules | `(tactic| walk_at "getMethod ref") => `(tactic| (refine my_getMethod PySem.F.slot_dict_items PySem.F.type_dict_items (News.get (by k_asm) (by walk_at "mine.mem")) ?_))
local macro_rules | `(tactic| walk_at "call builtin:dict.items") => `(tactic| (refine my_itemsN (by k_asm) (by k_asm) (by assumption) (News.get (by k_asm) (by walk_at "mine.mem")) ?_; intro v' h' F' N' l1; clear l1))
local macro_rules | `(tactic| walk_at "call type:list") => `(tactic| ((fail_if_success (rename IntsAre _ _ => hX)); refine hold ?_))
local macro_rules | `(tactic| walk_at "subscriptTail Name Slice ref ref") => `(tactic| ((fail_if_success (rename IntsAre _ _ => hX)); refine hold ?_))
local macro_rules | `(tactic| walk_at "call builtin:sum") => `(tactic| refine hold ?_)
local macro_rules | `(tactic| walk_at "compareOp NotEq ref ref") => `(tactic| refine hold ?_)
local macro_rules | `(tactic| walk_at "call ref") => `(tactic| refine hold ?_)
local macro_rules | `(tactic| walk_at "pyIter ref") => `(tactic| refine hold ?_)
local macro_rules | `(tactic| walk_at "eval ListComp") => `(tactic| refine hold ?_)
local macro_rules | `(tactic| walk_at "call builtin:len") => `(tactic| refine hold ?_)
local macro_rules | `(tactic| walk_at "exec For Name Call cons nil") => `(tactic| refine hold ?_)

set_option maxRecDepth 100000 in
set_option maxHeartbeats 8000000 in
theorem tlaw : PySem.Challenge.rw_mq0071_01.Holds := by
  refine Mine.hd ?_
  k_go0
  try k_fold
  w_strict k_steps
  refine Hold.mk (use (W := No) (tcallers _ _ _ _ _).2.2 _ rfl (by k_asm) (by k_asm) (by k_asm) (by assumption) (by assumption) rfl (fun _ _ q => q.elim) ⟨_, _, _, rfl, .inr (.head _), by assumption, by simp; omega⟩ (by decide) (by decide) ?_ (cl_mono _))
  rintro r tl1 h1 tk1 F1 N1 hf1 ⟨aC, cs, rfl, hC, hok, hlen⟩
  have hl6 : cs.length ≤ 6 := by rw [hlen]; simp; omega
  clear hf1 hlen
  repeat (rename IntsAre _ _ => hX; clear hX)
  generalize hnw1 : (_ ++ tl1) = nw1 at N1 hC
  clear hnw1
  w_strict k_steps
  refine Hold.mk (use (W := No) (tledger _ _ _ _ _).2.2 cs rfl (by k_asm) (by k_asm) (by k_asm) (by assumption) (by assumption) rfl (fun _ _ q => q.elim) ⟨_, rfl, hC, by omega⟩ (by decide) (by decide) ?_ (lg_mono _))
  rintro r tl2 h2 tk2 F2 N2 hf2 ⟨aD, rfl, hD⟩
  replace hC := hC.mono (add_more (tl := tl2))
  clear hf2
  generalize hnw2 : (nw1 ++ tl2) = nw2 at N2 hC hD
  w_strict k_steps
  refine Hold.mk (use (W := No) (ttable _ _ _ _ _).2.2 cs rfl (by k_asm) (by k_asm) (by k_asm) (by assumption) (by assumption) rfl (fun _ _ q => q.elim) ⟨_, rfl, hC, hl6, hok⟩ (by decide) (by decide) ?_ (tb_mono _ _))
  rintro r tl3 h3 tk3 F3 N3 hf3 ⟨aT, rfl, hT⟩
  replace hC := hC.mono (add_more (tl := tl3))
  replace hD := hD.mono (add_more (tl := tl3))
  clear hf3
  generalize hnw3 : (nw2 ++ tl3) = nw3 at N3 hC hD hT
  have loT := hT.lo
  obtain ⟨rT, epT, hrT, hmT0, hnT, hkT⟩ := hT.rep
  have hmT := hmT0.elim (fun z => z.elim) id
  clear hmT0
  have hrl : rT.length ≤ 6 := by
    have h1 := congrArg List.length hrT
    have h2 := tab_len cs
    simp only [tabOf, List.length_map] at h1
    omega
  w_strict k_steps
  refine Hold.mk (my_list_items (r := rT) (W := No.add nw3) rfl (by k_asm) (by k_asm) (News.get (by k_asm) (.head _)) (News.get (by k_asm) (.tail _ hmT)) (by omega) hkT ?_)
  intro S4 tl4 h4 tk4 F4 N4 hf4 hS4
  rw [hrT] at hS4
  clear hf4
  w_strict k_steps
  refine Hold.mk (my_ne_cs (W := Know.add (No.add nw3) tl4) (fun a o q => ?_) hS4 (hD.mono fun _ _ q => .inl q) (okT_tab hok) (by ktr_units) ?_)
  · rcases q with q | q
    · exact no_get (News.mono_tail N4) _ _ q
    · exact (N4 _ (List.mem_append.mpr (.inl q))).1
  clear hS4
  obtain ⟨nw4, N4', hsub4⟩ : ∃ nw, News _ _ h4 nw ∧ ∀ p ∈ nw3, p ∈ nw := ⟨_, N4, fun p hp => List.mem_append.mpr (.inr (.tail _ hp))⟩
  clear N4
  replace hC := hC.mono (add_sub hsub4)
  replace hD := hD.mono (add_sub hsub4)
  replace hT := hT.mono (add_sub hsub4)
  clear hsub4
  clear hmT hkT hnT hrT loT
  w_strict k_steps
  refine Hold.mk (use (W := No) (tcount _ _ _ _ _).2.2 (tab cs) rfl (by k_asm) (by k_asm) (by k_asm) (by assumption) (by assumption) rfl (fun _ _ q => q.elim) ⟨_, rfl, hT⟩ (by decide) (by decide) ?_ (cc_mono _))
  rintro r tl5 h5 tk5 F5 N5 hf5 ⟨t5, rfl⟩
  rw [tot_tab]
  replace hC := hC.mono (add_more (tl := tl5))
  replace hD := hD.mono (add_more (tl := tl5))
  clear hf5 hT
  generalize hnw5 : (nw4 ++ tl5) = nw5 at N5 hC hD
  clear hnw5 hnw3 hnw2
  obtain ⟨ws, wn, hl0, hwl, hcs⟩ := hC
  have hl := hl0.elim (fun z => z.elim) id
  clear hl0
  w_strict k_steps
  refine Hold.mk (my_compN (its := ws.toArray) (ax := aC) (fun i ys nw => IntsAre ys ((cs.take i).map (·.2)) ∧ ∀ p ∈ nw5, p ∈ nw) rfl (by k_asm) (by k_asm) ?_ (by rw [sizeLine_eq, List.size_toArray]; omega) ?_ ?_ ⟨.nil, fun _ h => h⟩ ?_ ?_ ?_ (by rfl) (by decide) (by rfl) (by decide) (by rfl) (by rfl) (by decide))
  · rintro i ys nw h ⟨_, hsub⟩ _ N
    exact ⟨_, (N _ (hsub _ hl)).1, rfl, wn, rfl⟩
  · intro Q' E' q
    w_strict k_steps
    exact q
  · rintro i v ys nw h ⟨_, hsub⟩ _ N hv
    have hv' : ws[i]? = some v := by simpa using hv
    have hi : i < cs.length := by have := (List.getElem?_eq_some_iff.mp hv').1; omega
    obtain ⟨p, hp, b, tkc, n', hp1, hkey⟩ := hcs i cs[i] (by simp [hi])
    rw [hp] at hv'
    exact ⟨p, _, _, _, (Option.some.inj hv').symm, (N _ (hsub _ (hp1.elim (fun z => z.elim) id))).1⟩
  · rintro i ys nw ⟨hi, _⟩
    have h1 := (my_ints hi).1
    rw [h1, List.length_map]; exact List.length_take_le _ _
  · rintro i t v₁ v₂ n hv ys nw I oI C oC D m₂ h tk ht ⟨hI, hsub⟩ hC1 h1 h2 F₁ N₁ off ⟨n1, n2, n3⟩
    have hv' : ws[i]? = some (.ref t) := by simpa using hv
    have hi : i < cs.length := by have := (List.getElem?_eq_some_iff.mp hv').1; omega
    obtain ⟨p, hp, b, tkc, n', hp1, hkey⟩ := hcs i cs[i] (by simp [hi])
    have hpt : p = t := by rw [hp] at hv'; simpa using hv'
    subst hpt
    obtain ⟨rfl, rfl⟩ := tup2_inj (ht.symm.trans (N₁ _ (.tail _ (.tail _ (.tail _ (hsub _ (hp1.elim (fun z => z.elim) id)))))).1)
    refine wpAny_tests_nil ?_
    rw [if_pos rfl]
    w_strict k_steps
    refine CompEnd.intro F₁ N₁ nw (fun p hp => hp) off trivial ⟨?_, hsub⟩
    rw [List.take_add_one, List.getElem?_eq_getElem hi, List.map_append]
    exact ints_snoc hI _ _
  · rintro D6 h6 tk6 ys6 nw6 ⟨hI6, hsub⟩ F6 N6 off6
    rw [List.take_of_length_le (by rw [List.size_toArray]; omega)] at hI6
    w_strict k_steps
    refine Hold.mk ?_
    refine LSm.sum_ints F6 N6 rfl ⟨_, (N6 _ (.head _)).1, rfl, _, rfl⟩ hI6 ?_
    intro h7 tk7 t7 F7 N7
    clear hI6
    w_strict k_steps
    have hwz : ws.toArray.size ≤ sizeLine := by rw [sizeLine_eq, List.size_toArray]; omega
    refine Hold.mk (wpAny_For ?_ (by intro _; rfl))
    w_strict k_steps
    refine Hold.mk (my_len (n := cs.length) (by k_asm) (.tail _ (hsub _ hl)) hwl (by omega) ?_)
    w_strict k_steps
    refine Hold.mk ?_
    refine iter_range (n := cs.length + 1) (news := (D6, lst ys6) :: nw6) rfl (by with_unfolding_all assumption) (by omega) (by k_asm) (by k_asm)
      (fun i m₁ news₁ => ∃ (m₀ : Str → Option Value), (m₁ = fun y => if y = Str.ofString "callers" then some (Value.ref aC) else if y = Str.ofString "due" then some (Value.ref aD) else m₀ y) ∧ ∀ p ∈ nw5, p ∈ news₁)
      ⟨_, upd2s _ rfl rfl, fun p hp => .tail _ (hsub p hp)⟩ ?_ ?_
    · rintro i t m₁ news₁ h tk I ito hi ⟨m₀, rfl, hsub1⟩ hne F₁ N₁
      have hlm := hsub1 _ hl
      have hil : i ≤ cs.length := Nat.lt_succ_iff.mp hi
      have hle := hcs_sub hsub1 hcs
      w_strict k_steps
      k_dflt (refine' Hold.mk (kmk_slice_lit (zs := ws.take i) ?yF ?yN ?yl ?yp ?yq ?ye ?_ ?ys ?yt ?yz); (case yF => k_asm); (case yN => k_asm); (case yl => exact ⟨_, News.get (by k_asm) (.tail _ hlm), rfl, wn, rfl⟩); (case yp => kmk_part); (case yq => kmk_part); (case ye => exact pick_upto ws (Int.natCast_nonneg i)); (case ys => with_unfolding_all rfl); (case yt => kmk_pure); (case yz => exact hwz))
      intro D8 h8 F8 N8 l8
      w_strict k_steps
      refine Hold.mk (use (W := No) (ttable _ _ _ _ _).2.2 (cs.take i) rfl (by k_asm) (by k_asm) (by k_asm) (by assumption) (by assumption) rfl (fun _ _ q => q.elim) ⟨_, rfl, ?_, ?_, ?_⟩ (by decide) (by decide) ?_ (tb_mono _ _))
      · exact ⟨_, 0, .inr (.head _), by rw [List.length_take, List.length_take, hwl], cs_take hle⟩
      · rw [List.length_take]; omega
      · exact fun c hc => hok c (List.mem_of_mem_take hc)
      rintro r tl9 h9 tk9 F9 N9 hf9 ⟨aA, rfl, hA⟩
      clear hf9 l8
      simp only [List.cons_append] at N9 hA
      obtain ⟨nw9, e9⟩ : ∃ nw, nw = (D8, listOf (ws.take i).toArray 0) :: (I, ito) :: (news₁ ++ tl9) := ⟨_, rfl⟩
      rw [← e9] at N9 hA
      have hI9 : (I, ito) ∈ nw9 := e9 ▸ .tail _ (.head _)
      have hs9 : ∀ p ∈ news₁, p ∈ nw9 := fun p hp => e9 ▸ .tail _ (.tail _ (List.mem_append.mpr (.inl hp)))
      clear e9
      w_strict k_steps
      k_dflt (refine' Hold.mk (kmk_slice_lit (zs := ws.drop i) ?yF ?yN ?yl ?yp ?yq ?ye ?_ ?ys ?yt ?yz); (case yF => k_asm); (case yN => k_asm); (case yl => exact ⟨_, News.get (by k_asm) (hs9 _ hlm), rfl, wn, rfl⟩); (case yp => kmk_part); (case yq => kmk_part); (case ye => exact pick_from ws (Int.natCast_nonneg i)); (case ys => with_unfolding_all rfl); (case yt => kmk_pure); (case yz => exact hwz))
      intro D10 h10 F10 N10 l10
      clear l10
      w_strict k_steps
      refine Hold.mk (use (W := No) (ttable _ _ _ _ _).2.2 (cs.drop i) rfl (by k_asm) (by k_asm) (by k_asm) (by assumption) (by assumption) rfl (fun _ _ q => q.elim) ⟨_, rfl, ?_, ?_, ?_⟩ (by decide) (by decide) ?_ (tb_mono _ _))
      · exact ⟨_, 0, .inr (.head _), by rw [List.length_drop, List.length_drop, hwl], cs_drop (hcs_sub hs9 hle)⟩
      · rw [List.length_drop]; omega
      · exact fun c hc => hok c (List.mem_of_mem_drop hc)
      rintro r tl11 h11 tk11 F11 N11 hf11 ⟨aB, rfl, hB⟩
      clear hf11
      obtain ⟨nw11, e11⟩ : ∃ nw, nw = (D10, listOf (ws.drop i).toArray 0) :: nw9 ++ tl11 := ⟨_, rfl⟩
      rw [← e11] at N11 hB
      have hs11 : ∀ p ∈ nw9, p ∈ nw11 := fun p hp => e11 ▸ .tail _ (List.mem_append.mpr (.inl hp))
      clear e11
      w_strict k_steps
      have hla := tab_len (cs.take i)
      have hlb := tab_len (cs.drop i)
      rw [List.length_take] at hla
      rw [List.length_drop] at hlb
      refine Hold.mk (use (W := No) (tadd _ _ _ _ _).2.2 (tab (cs.take i), tab (cs.drop i)) rfl (by k_asm) (by k_asm) (by k_asm) (by assumption) (by assumption) rfl (fun _ _ q => q.elim) ⟨_, _, rfl, hA.mono (add_sub hs11), hB, by dsimp only; omega⟩ (by decide) (by decide) ?_ (ac_mono _ _))
      rintro r tl12 h12 tk12 F12 N12 hf12 ⟨aM, rfl, hM⟩
      clear hf12 hA hB
      dsimp only at hM
      rw [tab_cut] at hM
      have hs12 : ∀ p ∈ nw9, p ∈ nw11 ++ tl12 := fun p hp => List.mem_append.mpr (.inl (hs11 p hp))
      generalize hnw12 : nw11 ++ tl12 = nw12 at N12 hM hs12
      clear hnw12 hs11
      have loM := hM.lo
      obtain ⟨rM, epM, hrM, hmM0, hnM, hkM⟩ := hM.rep
      have hmM := hmM0.elim (fun z => z.elim) id
      clear hmM0
      have hrl : rM.length ≤ 6 := by
        have h1 := congrArg List.length hrM
        have h2 := tab_len cs
        simp only [tabOf, List.length_map] at h1
        omega
      w_strict k_steps
      refine Hold.mk (my_list_items (r := rM) (W := No.add nw12) rfl (by k_asm) (by k_asm) (News.get (by k_asm) (.head _)) (News.get (by k_asm) (.tail _ hmM)) (by omega) hkM ?_)
      intro S13 tl13 h13 tk13 F13 N13 hf13 hS13
      rw [hrM] at hS13
      clear hf13
      w_strict k_steps
      refine Hold.mk (my_ne_cs (W := Know.add (No.add nw12) tl13) (fun a o q => ?_) hS13 ((hD.mono (add_sub fun p hp => hs12 _ (hs9 _ (hsub1 _ hp)))).mono fun _ _ q => .inl q) (okT_tab hok) (by ktr_units) ?_)
      · rcases q with q | q
        · exact no_get (News.mono_tail N13) _ _ q
        · exact (N13 _ (List.mem_append.mpr (.inl q))).1
      w_strict k_steps
      refine GEnd.intro (news₂ := nw5) (by k_asm) (fun p hp => ?_) (fun p hp => hne p (hsub1 p hp)) ⟨_, upd2s _ rfl rfl, fun p hp => hp⟩
      rcases List.mem_cons.mp hp with rfl | hp
      · exact N13 _ (List.mem_append.mpr (.inr (.tail _ (hs12 _ hI9))))
      · exact N13 _ (List.mem_append.mpr (.inr (.tail _ (hs12 _ (hs9 _ (hsub1 _ hp))))))
    · rintro h8 tk8 m8 news8 F8 N8 ⟨m₀, rfl, hsub1⟩
      w_strict k_steps
end
end Mine
end

theorem PySem.Challenge.cw_mq0071_01_holds : PySem.Challenge.rw_mq0071_01.Holds := by
  exact Mine.tlaw
