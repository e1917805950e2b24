/- Plain: what the trie of a generic replacer holds, and what is looked up in it. -/
import Derived.Test.YtnigbgablginnaaTri
set_option linter.unusedVariables false
namespace Go.Proofs.Ytnigbgablginnaa
open Go.Lib Go.RowKit

abbrev BB := ByteArray × ByteArray
def tb (q : BB) : Bs × Bs := (q.1.data.toList, q.2.data.toList)
/-- What is held behind the first k pairs; L: the number of texts. -/
def Holds (F : Bs → ByteArray × Nat) (qs : List BB) (k L : Nat) : Prop :=
  ∀ x, (F x = (ByteArray.empty, 0) ∧ ∀ j q, j < k → qs[j]? = some q → q.1.data.toList ≠ x) ∨
    ∃ j q, j < k ∧ qs[j]? = some q ∧ q.1.data.toList = x ∧ (∀ i q', i < j → qs[i]? = some q' → q'.1.data.toList ≠ x) ∧ F x = (q.2, L - 2 * j)
theorem Holds.zero (qs : List BB) (L : Nat) : Holds (fun _ => (ByteArray.empty, 0)) qs 0 L := fun x => .inl ⟨rfl, fun j q h => absurd h (Nat.not_lt_zero _)⟩
theorem Holds.succ {F : Bs → ByteArray × Nat} {qs : List BB} {k L : Nat} (h : Holds F qs k L) {q : BB} (hq : qs[k]? = some q) (hL : 2 * qs.length ≤ L) : Holds (upd F q.1.data.toList q.2 (L - 2 * k)) qs (k + 1) L := by
  have hk : k < qs.length := (List.getElem?_eq_some_iff.1 hq).1
  intro x
  by_cases hx : x = q.1.data.toList
  · subst hx
    rcases h q.1.data.toList with ⟨e0, hno⟩ | ⟨j, q', hj, hq', e1, hno, e2⟩
    · refine .inr ⟨k, q, Nat.lt_succ_self _, hq, rfl, fun i q' hi hq' => hno i q' hi hq', ?_⟩
      unfold upd
      rw [if_pos ⟨rfl, by rw [e0]⟩]
    · refine .inr ⟨j, q', by omega, hq', e1, hno, ?_⟩
      unfold upd
      rw [if_neg (by rw [e2]; show ¬ (_ ∧ L - 2 * j = 0); omega)]
      exact e2
  · have hu : upd F q.1.data.toList q.2 (L - 2 * k) x = F x := by
      unfold upd
      rw [if_neg (fun e => hx e.1)]
    rw [hu]
    rcases h x with ⟨e0, hno⟩ | ⟨j, q', hj, hq', e1, hno, e2⟩
    · refine .inl ⟨e0, fun j q' hj hq' e => ?_⟩
      rcases Nat.lt_succ_iff_lt_or_eq.1 hj with h' | rfl
      · exact hno j q' h' hq' e
      · rw [hq] at hq'
        obtain rfl := Option.some.inj hq'
        exact hx e.symm
    · exact .inr ⟨j, q', by omega, hq', e1, hno, e2⟩

/-- The best of the prefixes of fewer than n bytes. -/
def Best (F : Bs → ByteArray × Nat) (s : Bs) (e : Bool) (n bp : Nat) (val : ByteArray) (kl : Nat) (found : Bool) : Prop :=
  (bp = 0 ∧ val = ByteArray.empty ∧ kl = 0 ∧ found = false ∧ ∀ i, i < n → (e = true ∨ 0 < i) → (F (s.take i)).2 = 0) ∨
    ∃ i, i < n ∧ (e = true ∨ 0 < i) ∧ 0 < bp ∧ F (s.take i) = (val, bp) ∧ kl = i ∧ found = true ∧ ∀ j, j < n → (e = true ∨ 0 < j) → (F (s.take j)).2 ≤ bp
theorem Best.zero (F : Bs → ByteArray × Nat) (s : Bs) (e : Bool) : Best F s e 0 0 ByteArray.empty 0 false := .inl ⟨rfl, rfl, rfl, rfl, fun i h => absurd h (Nat.not_lt_zero _)⟩
theorem Best.le {F : Bs → ByteArray × Nat} {s : Bs} {e : Bool} {n bp : Nat} {val : ByteArray} {kl : Nat} {found : Bool} (h : Best F s e n bp val kl found) : ∀ j, j < n → (e = true ∨ 0 < j) → (F (s.take j)).2 ≤ bp := by
  rcases h with ⟨h0, _, _, _, h⟩ | ⟨i, _, _, _, _, _, _, h⟩
  · intro j hj hr
    rw [h j hj hr, h0]; exact Nat.le_refl _
  · exact h
theorem Best.take {F : Bs → ByteArray × Nat} {s : Bs} {e : Bool} {n bp : Nat} {val : ByteArray} {kl : Nat} {found : Bool} (h : Best F s e n bp val kl found) (hr : e = true ∨ 0 < n) {v : ByteArray} {p : Nat} (hF : F (s.take n) = (v, p)) (hp : bp < p) :
    Best F s e (n + 1) p v n true := by
  refine .inr ⟨n, Nat.lt_succ_self _, hr, by omega, hF, rfl, rfl, fun j hj hrj => ?_⟩
  rcases Nat.lt_succ_iff_lt_or_eq.1 hj with h' | rfl
  · have := h.le j h' hrj; omega
  · rw [hF]; exact Nat.le_refl _
theorem Best.far {F : Bs → ByteArray × Nat} {s : Bs} {e : Bool} {n bp : Nat} {val : ByteArray} {kl : Nat} {found : Bool} (h : Best F s e n bp val kl found) {n' : Nat} (hn : n ≤ n') (hz : ∀ i, n ≤ i → i < n' → (e = true ∨ 0 < i) → (F (s.take i)).2 ≤ bp) :
    Best F s e n' bp val kl found := by
  rcases h with ⟨h0, h1, h2, h3, h⟩ | ⟨i, hi, hr, h0, h1, h2, h3, h⟩
  · refine .inl ⟨h0, h1, h2, h3, fun j hj hrj => ?_⟩
    by_cases hjn : j < n
    · exact h j hjn hrj
    · have := hz j (by omega) hj hrj; omega
  · refine .inr ⟨i, by omega, hr, h0, h1, h2, h3, fun j hj hrj => ?_⟩
    by_cases hjn : j < n
    · exact h j hjn hrj
    · exact hz j (by omega) hj hrj

theorem take_of_pre {a s : Bs} (h : a <+: s) : s.take a.length = a := by
  obtain ⟨r, rfl⟩ := h
  exact List.take_left' rfl
theorem fits_iff (e : Bool) (s : Bs) (p : Bs × Bs) : fits e s p = true ↔ (e = true ∨ 0 < p.1.length) ∧ p.1 <+: s := by
  unfold fits
  rw [Bool.and_eq_true, Bool.or_eq_true, List.isPrefixOf_iff_prefix]
  cases hp : p.1 with
  | nil => simp
  | cons a b => simp

/-- What is looked up is the first pair that fits. -/
theorem Best.first {F : Bs → ByteArray × Nat} {qs : List BB} {L : Nat} (hH : Holds F qs qs.length L) (hL : 2 * qs.length ≤ L) {s : Bs} {e : Bool} {bp : Nat} {val : ByteArray} {kl : Nat} {found : Bool} (h : Best F s e (s.length + 1) bp val kl found) :
    (∀ p, firstP (qs.map tb) s e = some p → found = true ∧ val.data.toList = p.2 ∧ kl = p.1.length) ∧ (firstP (qs.map tb) s e = none → found = false ∧ val = ByteArray.empty ∧ kl = 0) := by
  constructor
  · intro p hp
    unfold firstP at hp
    rw [List.find?_eq_some_iff_getElem] at hp
    obtain ⟨hf, k, hk, e1, hno⟩ := hp
    rw [List.length_map] at hk
    rw [List.getElem_map] at e1
    obtain ⟨hre, hpre⟩ := (fits_iff e s p).1 hf
    have hno' : ∀ j (hj : j < k), fits e s (tb (qs[j]'(by omega))) = false := fun j hj => by
      have := hno j hj
      rw [List.getElem_map] at this
      simpa using this
    have hplen : p.1.length ≤ s.length := hpre.length_le
    -- what stands at the key of the k-th pair
    have hFk : F p.1 = (qs[k].2, L - 2 * k) := by
      rcases hH p.1 with ⟨_, hn⟩ | ⟨j, q, hj, hq, eq, hn, eF⟩
      · exact absurd (by rw [← e1]; rfl) (hn k qs[k] hk (List.getElem?_eq_getElem hk))
      · obtain ⟨hj', rfl⟩ := List.getElem?_eq_some_iff.1 hq
        have hjk : j = k := by
          rcases Nat.lt_trichotomy j k with h' | h' | h'
          · have := hno' j h'
            have h2 : fits e s (tb qs[j]) = true := (fits_iff e s _).2 ⟨by show _ ∨ 0 < (qs[j].1.data.toList).length; rw [eq]; exact hre, by show qs[j].1.data.toList <+: s; rw [eq]; exact hpre⟩
            rw [this] at h2; cases h2
          · exact h'
          · exact absurd (by rw [← e1]; rfl) (hn k qs[k] h' (List.getElem?_eq_getElem hk))
        subst hjk
        exact eF
    have hle := h.le p.1.length (by omega) hre
    rw [take_of_pre hpre, hFk] at hle
    have hle' : L - 2 * k ≤ bp := hle
    rcases h with ⟨h0, _, _, _, _⟩ | ⟨i, hi, hr, h0, h1, h2, h3, _⟩
    · omega
    · rcases hH (s.take i) with ⟨eF, _⟩ | ⟨j, q, hj, hq, eq, hn, eF⟩
      · rw [h1] at eF
        have := congrArg Prod.snd eF
        simp at this
        omega
      · obtain ⟨hj', rfl⟩ := List.getElem?_eq_some_iff.1 hq
        rw [h1] at eF
        have ev := congrArg Prod.fst eF
        have ep : bp = L - 2 * j := congrArg Prod.snd eF
        have hlen : (s.take i).length = i := by rw [List.length_take]; omega
        have hfj : fits e s (tb qs[j]) = true := (fits_iff e s _).2 ⟨by show _ ∨ 0 < (qs[j].1.data.toList).length; rw [eq, hlen]; exact hr, by show qs[j].1.data.toList <+: s; rw [eq]; exact List.take_prefix i s⟩
        have hjk : j = k := by
          rcases Nat.lt_trichotomy j k with h' | h' | h'
          · rw [hno' j h'] at hfj; cases hfj
          · exact h'
          · omega
        subst hjk
        refine ⟨h3, ?_, ?_⟩
        · rw [← e1]; show _ = (qs[j].2).data.toList
          exact congrArg (·.data.toList) ev
        · rw [h2, ← e1]; show i = (qs[j].1.data.toList).length
          rw [eq, hlen]
  · intro hnone
    unfold firstP at hnone
    rw [List.find?_eq_none] at hnone
    rcases h with ⟨_, h1, h2, h3, _⟩ | ⟨i, hi, hr, h0, h1, h2, h3, _⟩
    · exact ⟨h3, h1, h2⟩
    · exfalso
      rcases hH (s.take i) with ⟨eF, _⟩ | ⟨j, q, hj, hq, eq, hn, eF⟩
      · rw [h1] at eF
        have := congrArg Prod.snd eF
        simp at this
        omega
      · have hlen : (s.take i).length = i := by rw [List.length_take]; omega
        refine hnone (tb q) (List.mem_map.2 ⟨q, List.mem_of_getElem? hq, rfl⟩) ?_
        exact (fits_iff e s _).2 ⟨by show _ ∨ 0 < (q.1.data.toList).length; rw [eq, hlen]; exact hr, by show q.1.data.toList <+: s; rw [eq]; exact List.take_prefix i s⟩

/-! ### a step of the search -/
section step
variable {m : UInt8 → Nat} {F : Bs → ByteArray × Nat} {s : Bs} {n : Nat}
/-- The tree T stands behind the first n bytes of s. -/
def Stands (F : Bs → ByteArray × Nat) (m : UInt8 → Nat) (T : Tr) (s : Bs) (n : Nat) : Prop := n ≤ s.length ∧ ∀ x, F (s.take n ++ x) = T.get m x
theorem Stands.here {T : Tr} (h : Stands F m T s n) : F (s.take n) = T.get m [] := by
  have := h.2 []
  rwa [List.append_nil] at this
theorem take_more (s : Bs) (n i : Nat) (h : n ≤ i) : s.take i = s.take n ++ (s.drop n).take (i - n) := by
  conv => lhs; rw [show i = n + (i - n) by omega, List.take_add]
theorem Stands.at {T : Tr} (h : Stands F m T s n) (i : Nat) (hi : n ≤ i) : F (s.take i) = T.get m ((s.drop n).take (i - n)) := by
  rw [take_more s n i hi]; exact h.2 _
theorem rest_ne {i : Nat} (hi : n < i) (hs : i ≤ s.length) : ∃ c r, (s.drop n).take (i - n) = c :: r ∧ (s.drop n).head? = some c := by
  cases hd : s.drop n with
  | nil => have := congrArg List.length hd; rw [List.length_drop] at this; simp at this; omega
  | cons c r =>
    obtain ⟨d, hd2⟩ : ∃ d, i - n = d + 1 := ⟨i - n - 1, by omega⟩
    exact ⟨c, r.take d, by rw [hd2]; rfl, rfl⟩
/-- Nothing stands behind: a table without a child there, a leaf, a prefix that does not stand there. -/
theorem Stands.none_tab {a tb : Nat} {v : ByteArray} {p : Nat} {ch : Nat → Tr} (h : Stands F m (.tab a v p tb ch) s n) {c : UInt8} {r : Bs} (hc : s.drop n = c :: r) (hz : ch (m c) = .nil) : ∀ i, n < i → i ≤ s.length → (F (s.take i)).2 = 0 := by
  intro i hi hs
  obtain ⟨c', r', e1, e2⟩ := rest_ne hi hs
  rw [h.at i (by omega), e1]
  rw [hc] at e2
  obtain rfl : c = c' := by simpa using e2
  rw [Tr.get_tab_cons, hz, Tr.get_nil]
theorem Stands.none_leaf {a : Nat} {v : ByteArray} {p : Nat} (h : Stands F m (.leaf a v p) s n) : ∀ i, n < i → i ≤ s.length → (F (s.take i)).2 = 0 := by
  intro i hi hs
  obtain ⟨c', r', e1, e2⟩ := rest_ne hi hs
  rw [h.at i (by omega), e1]; rfl
theorem Stands.none_pre {a : Nat} {v : ByteArray} {p : Nat} {key : ByteArray} {next : Tr} (h : Stands F m (.pre a v p key next) s n) (hn : ¬ key.data.toList <+: s.drop n) : ∀ i, n < i → i ≤ s.length → (F (s.take i)).2 = 0 := by
  intro i hi hs
  obtain ⟨c', r', e1, e2⟩ := rest_ne hi hs
  rw [h.at i (by omega), get_pre_no _ _ _ _ _ _ (by rw [e1]; simp) (fun e => hn (e.trans (List.take_prefix _ _)))]
/-- One step down. -/
theorem Stands.tab {a tb : Nat} {v : ByteArray} {p : Nat} {ch : Nat → Tr} (h : Stands F m (.tab a v p tb ch) s n) {c : UInt8} {r : Bs} (hc : s.drop n = c :: r) : Stands F m (ch (m c)) s (n + 1) := by
  have hl : n + 1 ≤ s.length := by have := congrArg List.length hc; rw [List.length_drop, List.length_cons] at this; omega
  refine ⟨hl, fun x => ?_⟩
  rw [take_more s n (n + 1) (by omega), hc, show n + 1 - n = 1 by omega, List.append_assoc, h.2]
  exact Tr.get_tab_cons m a v p tb ch c x
theorem Stands.pre {a : Nat} {v : ByteArray} {p : Nat} {key : ByteArray} {next : Tr} (h : Stands F m (.pre a v p key next) s n) (h0 : 0 < key.size) (hk : key.data.toList <+: s.drop n) :
    Stands F m next s (n + key.size) ∧ ∀ i, n < i → i < n + key.size → (F (s.take i)).2 = 0 := by
  have hlk : key.data.toList.length = key.size := by simp
  have hl : n + key.size ≤ s.length := by have := hk.length_le; rw [hlk, List.length_drop] at this; have := h.1; omega
  have ht : (s.drop n).take key.size = key.data.toList := by rw [← hlk]; exact take_of_pre hk
  refine ⟨⟨hl, fun x => ?_⟩, fun i hi hi2 => ?_⟩
  · rw [take_more s n (n + key.size) (by omega), show n + key.size - n = key.size by omega, ht, List.append_assoc, h.2, get_pre_app _ _ _ _ _ h0]
  · obtain ⟨c', r', e1, e2⟩ := rest_ne hi (show i ≤ s.length by omega)
    rw [h.at i (by omega), get_pre_no _ _ _ _ _ _ (by rw [e1]; simp) (fun e => ?_)]
    have := e.length_le
    rw [hlk, List.length_take, List.length_drop] at this
    omega
end step
end Go.Proofs.Ytnigbgablginnaa
