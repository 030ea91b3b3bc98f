/-
  THE PLAIN LAW: the two tables of names, what a value is called, and that the names are distinct words. No Go in sight.
-/
import Derived.Lib.ItoaNum
namespace Go.Proofs.Qxb6613161aDoor

/-- The package's word for a value that no RFC assigns. -/
def unk : List UInt8 := [117, 110, 107, 110, 111, 119, 110, 95]
def hasUnk (l : List UInt8) : Bool := decide (8 ≤ l.length) && (l.take 8 == unk)
/-- A letter of a word: a-z, 0-9, '_'. -/
def okB (c : UInt8) : Bool := (decide (97 ≤ c.toNat) && decide (c.toNat ≤ 122)) || (decide (48 ≤ c.toNat) && decide (c.toNat ≤ 57)) || decide (c.toNat = 95)

def extTab : List (Nat × List UInt8) :=
  [(0, [115, 101, 114, 118, 101, 114, 95, 110, 97, 109, 101]),
  (1, [109, 97, 120, 95, 102, 114, 97, 103, 109, 101, 110, 116, 95, 108, 101, 110, 103, 116, 104]),
  (2, [99, 108, 105, 101, 110, 116, 95, 99, 101, 114, 116, 105, 102, 105, 99, 97, 116, 101, 95, 117, 114, 108]),
  (3, [116, 114, 117, 115, 116, 101, 100, 95, 99, 97, 95, 107, 101, 121, 115]),
  (4, [116, 114, 117, 110, 99, 97, 116, 101, 100, 95, 104, 109, 97, 99]),
  (5, [115, 116, 97, 116, 117, 115, 95, 114, 101, 113, 117, 101, 115, 116]),
  (7, [99, 108, 105, 101, 110, 116, 95, 97, 117, 116, 104, 122]),
  (8, [115, 101, 114, 118, 101, 114, 95, 97, 117, 116, 104, 122]),
  (10, [115, 117, 112, 112, 111, 114, 116, 101, 100, 95, 103, 114, 111, 117, 112, 115]),
  (11, [101, 99, 95, 112, 111, 105, 110, 116, 95, 102, 111, 114, 109, 97, 116, 115]),
  (13, [115, 105, 103, 110, 97, 116, 117, 114, 101, 95, 97, 108, 103, 111, 114, 105, 116, 104, 109, 115]),
  (65281, [114, 101, 110, 101, 103, 111, 116, 105, 97, 116, 105, 111, 110, 95, 105, 110, 102, 111])]
def authTab : List (Nat × List UInt8) :=
  [(0, [120, 53, 48, 57, 95, 97, 116, 116, 114, 95, 99, 101, 114, 116]),
  (1, [115, 97, 109, 108, 95, 97, 115, 115, 101, 114, 116, 105, 111, 110]),
  (2, [120, 53, 48, 57, 95, 97, 116, 116, 114, 95, 99, 101, 114, 116, 95, 117, 114, 108]),
  (3, [115, 97, 109, 108, 95, 97, 115, 115, 101, 114, 116, 105, 111, 110, 95, 117, 114, 108])]

/-- What a value is called. -/
def nameIn (tab : List (Nat × List UInt8)) (v : Nat) : List UInt8 :=
  match tab.lookup v with
  | some s => s
  | none => unk ++ Lib.decDigits v

theorem hasUnk_unk (l : List UInt8) : hasUnk (unk ++ l) = true := by
  simp [hasUnk, unk]

theorem mem_of_lookup {tab : List (Nat × List UInt8)} {v : Nat} {s : List UInt8} (h : tab.lookup v = some s) : (v, s) ∈ tab := by
  induction tab with
  | nil => cases h
  | cons p r ih =>
    obtain ⟨k, t⟩ := p
    rw [List.lookup_cons] at h
    split at h
    · rename_i hk
      cases h
      rw [beq_iff_eq.1 hk]
      exact List.mem_cons_self
    · exact List.mem_cons_of_mem _ (ih h)

/-- WHAT IS ASKED OF A TABLE: its names are words, none opens with 'unknown_', no two are alike; none is longer than forty bytes. -/
def goodB (tab : List (Nat × List UInt8)) : Bool :=
  tab.all fun p => !hasUnk p.2 && decide (0 < p.2.length) && decide (p.2.length ≤ 40) && p.2.all okB && tab.all fun q => !(p.2 == q.2) || p.1 == q.1
theorem ext_good : goodB extTab = true := by decide +kernel
theorem auth_good : goodB authTab = true := by decide +kernel

structure Good (tab : List (Nat × List UInt8)) : Prop where
  noUnk : ∀ {v s}, tab.lookup v = some s → hasUnk s = false
  pos : ∀ {v s}, tab.lookup v = some s → 0 < s.length
  len : ∀ {v s}, tab.lookup v = some s → s.length ≤ 40
  word : ∀ {v s}, tab.lookup v = some s → s.all okB = true
  inj : ∀ {v w s}, tab.lookup v = some s → tab.lookup w = some s → v = w
theorem good_of {tab : List (Nat × List UInt8)} (h : goodB tab = true) : Good tab := by
  have key : ∀ {v s}, tab.lookup v = some s → hasUnk s = false ∧ 0 < s.length ∧ s.length ≤ 40 ∧ s.all okB = true ∧ ∀ q ∈ tab, s = q.2 → v = q.1 := by
    intro v s hs
    have := List.all_eq_true.1 h (v, s) (mem_of_lookup hs)
    simp only [Bool.and_eq_true, Bool.not_eq_true', decide_eq_true_eq] at this
    obtain ⟨⟨⟨⟨h1, h2⟩, h3⟩, h4⟩, h5⟩ := this
    refine ⟨h1, h2, h3, h4, fun q hq e => ?_⟩
    have := List.all_eq_true.1 h5 q hq
    subst e
    simpa using this
  exact ⟨fun a => (key a).1, fun a => (key a).2.1, fun a => (key a).2.2.1, fun a => (key a).2.2.2.1, fun a b => (key a).2.2.2.2 _ (mem_of_lookup b) rfl⟩

/-! ### The numeral tells the number -/
def valOf (l : List UInt8) : Nat := l.foldl (fun acc c => acc * 10 + (c.toNat - 48)) 0
theorem valOf_snoc (l : List UInt8) (c : UInt8) : valOf (l ++ [c]) = valOf l * 10 + (c.toNat - 48) := by
  simp [valOf]
theorem dig_nat (x : Nat) (h : x < 10) : (UInt8.ofNat (48 + x)).toNat - 48 = x := by
  rw [UInt8.toNat_ofNat', Nat.mod_eq_of_lt (by omega)]
  omega
theorem valOf_dec (u : Nat) : valOf (Lib.decDigits u) = u := by
  induction u using Nat.strongRecOn with
  | _ u ih =>
    by_cases h : u < 10
    · rw [Lib.decDigits, dif_pos h]
      simpa [valOf] using dig_nat u h
    · rw [Lib.decDigits, dif_neg h, valOf_snoc, ih (u / 10) (by omega), dig_nat _ (by omega)]
      omega
theorem dec_inj {a b : Nat} (h : Lib.decDigits a = Lib.decDigits b) : a = b := by
  rw [← valOf_dec a, h, valOf_dec]

/-! ### The law -/
theorem name_inj {tab : List (Nat × List UInt8)} (G : Good tab) {a b : Nat} (h : nameIn tab a = nameIn tab b) : a = b := by
  unfold nameIn at h
  split at h
  · rename_i s hs
    split at h
    · rename_i s' hs'
      subst h
      exact G.inj hs hs'
    · subst h
      have := G.noUnk hs
      rw [hasUnk_unk] at this
      cases this
  · split at h
    · rename_i s' hs'
      subst h
      have := G.noUnk hs'
      rw [hasUnk_unk] at this
      cases this
    · exact dec_inj (List.append_cancel_left h)

theorem auth_none {v : Nat} (h : 4 ≤ v) : authTab.lookup v = none := by
  cases e : authTab.lookup v with
  | none => rfl
  | some s =>
    have hm := mem_of_lookup e
    have : authTab.all (fun p => decide (p.1 < 4)) = true := by decide +kernel
    have := List.all_eq_true.1 this _ hm
    simp at this
    omega
theorem ext_none {v : Nat} (h : 14 ≤ v) (h2 : v < 256) : extTab.lookup v = none := by
  cases e : extTab.lookup v with
  | none => rfl
  | some s =>
    have hm := mem_of_lookup e
    have : extTab.all (fun p => decide (p.1 < 14) || decide (256 ≤ p.1)) = true := by decide +kernel
    have := List.all_eq_true.1 this _ hm
    simp at this
    omega
theorem ext_some {v : Nat} (h : v < 4) : ∃ s, extTab.lookup v = some s := by
  match v, h with
  | 0, _ => exact ⟨_, rfl⟩
  | 1, _ => exact ⟨_, rfl⟩
  | 2, _ => exact ⟨_, rfl⟩
  | 3, _ => exact ⟨_, rfl⟩
/-- A name of the one table is none of the other. -/
theorem apart_names {v : Nat} {s s' : List UInt8} (h : extTab.lookup v = some s) (h' : authTab.lookup v = some s') : s ≠ s' := by
  have : (extTab.all fun p => authTab.all fun q => !(p.2 == q.2)) = true := by decide +kernel
  have := List.all_eq_true.1 (List.all_eq_true.1 this _ (mem_of_lookup h)) _ (mem_of_lookup h')
  simpa using this
end Go.Proofs.Qxb6613161aDoor
