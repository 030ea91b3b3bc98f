/-
  THE WALKS OF THE THREE LAWS (functions 3, 4, 5), over what the listed variables give.
-/
import Derived.Test.Qxb6613161aDoorNames
namespace Go.Proofs.Qxb6613161aDoor
open Go.RowKit

/-- The map at block bm, of type T, keyed by integers of kind k, reads as the table at every key below the bound. -/
def Looks (T : TypeId) (k : IntKind) (tab : List (Nat × List UInt8)) (bound bm : Nat) (w : World) : Prop :=
  ∀ v : Nat, v < bound →
    (Instr.lookup T (.map (some bm)) (.int k v) true).run Tryd.prog w = .ok (.tuple #[.string ⟨((tab.lookup v).getD []).toArray⟩, .bool (tab.lookup v).isSome]) w
def Pow10 (w : World) : Prop := Lib.TabIs Tryd.prog w powVar .u64 Lib.pow10Tab
def ExtOk (w : World) : Prop := Pow10 w ∧ ∃ bm, w.cell? ⟨0, 0, none⟩ = some (.map (some bm)) ∧ Looks 34 .u16 extTab 65536 bm w
def AuthOk (w : World) : Prop := Pow10 w ∧ ∃ bm, w.cell? ⟨1, 0, none⟩ = some (.map (some bm)) ∧ Looks 36 .u8 authTab 256 bm w

theorem ext_any (v : Nat) (hv : v < 65536) (w : World) (h : ExtOk w) :
    Calls Tryd.prog 6 #[.int .u16 v] w fun e w' => e = .returned (.string ⟨(nameIn extTab v).toArray⟩) ∧ Below w.heap.size w w' := by
  obtain ⟨hp, bm, hc, hl⟩ := h
  have hr := hl v hv
  unfold nameIn
  cases e : extTab.lookup v with
  | some s =>
    rw [e] at hr
    exact (ext_known bm v _ w hc hr).mono fun e w' ⟨he, hw⟩ => ⟨he, hw ▸ Below.refl _ _⟩
  | none =>
    rw [e] at hr
    exact ext_unknown bm v hv w hc hr hp

theorem auth_any (v : Nat) (hv : v < 256) (w : World) (h : AuthOk w) :
    Calls Tryd.prog 8 #[.int .u8 v] w fun e w' => e = .returned (.string ⟨(nameIn authTab v).toArray⟩) ∧ Below w.heap.size w w' := by
  obtain ⟨hp, bm, hc, hl⟩ := h
  have hr := hl v hv
  unfold nameIn
  cases e : authTab.lookup v with
  | some s =>
    rw [e] at hr
    exact (auth_known bm v _ w hc hr).mono fun e w' ⟨he, hw⟩ => ⟨he, hw ▸ Below.refl _ _⟩
  | none =>
    rw [e] at hr
    exact auth_unknown bm v hv w hc hr hp

theorem shape_any {tab : List (Nat × List UInt8)} (G : Good tab) (v : Nat) (hv : v < 65536) (w : World) :
    Calls Tryd.prog 7 #[.string ⟨(nameIn tab v).toArray⟩, .int .u64 v] w fun e w' => e = .returned (.bool true) ∧ Below w.heap.size w w' := by
  unfold nameIn
  cases e : tab.lookup v with
  | none => exact shape_unk v hv w
  | some s =>
    have hz : (⟨s.toArray⟩ : ByteArray).size = s.length := by simp [ByteArray.size]
    have hl := G.len e
    refine (shape_word ⟨s.toArray⟩ v w (by rw [hz]; unfold maxLen; omega) (G.noUnk e) (by rw [hz]; exact G.pos e) (fun k hk => ?_)).mono fun e w' ⟨he, hw⟩ => ⟨he, hw ▸ Below.refl _ _⟩
    have hk' : k < s.length := by rw [hz] at hk; exact hk
    exact List.all_eq_true.1 (G.word e) s[k] (List.getElem_mem hk')

set_option maxHeartbeats 1600000 in
theorem walk3 (a b : Nat) (ha : a < 65536) (hb : b < 65536) (W : World) (hE : ∀ wr, Below W.heap.size W wr → ExtOk wr) :
    Calls Tryd.prog 3 #[.int .u16 a, .int .u16 b] W fun e w' => e = .returned (.bool true) ∧ Below W.heap.size W w' := by
  have HE : Hid (∀ wr, Below W.heap.size W wr → ExtOk wr) := hE
  clear hE
  have hab : ((a : Int) == (b : Int)) = (nameIn extTab a == nameIn extTab b) := by
    by_cases h : a = b
    · subst h; simp
    · have h2 : nameIn extTab a ≠ nameIn extTab b := fun e => h (name_inj (good_of ext_good) e)
      rw [beq_eq_false_iff_ne.2 h2, beq_eq_false_iff_ne.2 (by omega)]
  have HAB : Hid (((a : Int) == (b : Int)) = (nameIn extTab a == nameIn extTab b)) := hab
  clear hab
  go_enter Tryd.func3, Tryd.ntmps3
  go_wp2_with fail
  refine (ext_any a ha _ (HE.out _ (Below.refl _ _))).mono ?_
  rintro e w1 ⟨rfl, h1⟩
  go_wp2_with fail
  refine (ext_any b hb _ (HE.out _ h1)).mono ?_
  rintro e w2 ⟨rfl, h2⟩
  have t2 : Below W.heap.size W w2 := h1.trans (h2.mono h1.size)
  clear h1 h2
  go_wp2_with fail
  refine (shape_any (good_of ext_good) a ha _).mono ?_
  rintro e w3 ⟨rfl, h3⟩
  go_wp2_with fail
  refine (shape_any (good_of ext_good) b hb _).mono ?_
  rintro e w4 ⟨rfl, h4⟩
  go_wp2
  go_ret
  exact ⟨ret_bool (by rw [HAB.out]; exact beq_self_eq_true _), (t2.trans (h3.mono t2.size)).trans (h4.mono (Nat.le_trans t2.size h3.size))⟩
set_option maxHeartbeats 1600000 in
theorem walk4 (a b : Nat) (ha : a < 256) (hb : b < 256) (W : World) (hE : ∀ wr, Below W.heap.size W wr → AuthOk wr) :
    Calls Tryd.prog 4 #[.int .u8 a, .int .u8 b] W fun e w' => e = .returned (.bool true) ∧ Below W.heap.size W w' := by
  have HE : Hid (∀ wr, Below W.heap.size W wr → AuthOk wr) := hE
  clear hE
  have hab : ((a : Int) == (b : Int)) = (nameIn authTab a == nameIn authTab b) := by
    by_cases h : a = b
    · subst h; simp
    · have h2 : nameIn authTab a ≠ nameIn authTab b := fun e => h (name_inj (good_of auth_good) e)
      rw [beq_eq_false_iff_ne.2 h2, beq_eq_false_iff_ne.2 (by omega)]
  have HAB : Hid (((a : Int) == (b : Int)) = (nameIn authTab a == nameIn authTab b)) := hab
  clear hab
  go_enter Tryd.func4, Tryd.ntmps4
  go_wp2_with fail
  refine (auth_any a ha _ (HE.out _ (Below.refl _ _))).mono ?_
  rintro e w1 ⟨rfl, h1⟩
  go_wp2_with fail
  refine (auth_any b hb _ (HE.out _ h1)).mono ?_
  rintro e w2 ⟨rfl, h2⟩
  have t2 : Below W.heap.size W w2 := h1.trans (h2.mono h1.size)
  clear h1 h2
  go_wp2_with fail
  refine (shape_any (good_of auth_good) a (by omega) _).mono ?_
  rintro e w3 ⟨rfl, h3⟩
  go_wp2_with fail
  refine (shape_any (good_of auth_good) b (by omega) _).mono ?_
  rintro e w4 ⟨rfl, h4⟩
  go_wp2
  go_ret
  exact ⟨ret_bool (by rw [HAB.out]; exact beq_self_eq_true _), (t2.trans (h3.mono t2.size)).trans (h4.mono (Nat.le_trans t2.size h3.size))⟩

theorem unk_list (l : List UInt8) (h : l.length ≤ 40) (w : World) :
    Calls Tryd.prog 10 #[.string ⟨l.toArray⟩] w fun e w' => e = .returned (.bool (hasUnk l)) ∧ w' = w :=
  unk_any ⟨l.toArray⟩ w (by rw [show (⟨l.toArray⟩ : ByteArray).size = l.length by simp [ByteArray.size]]; unfold maxLen; omega)

set_option maxHeartbeats 1600000 in
/-- Both unknown. -/
theorem walk5_none (v : Nat) (hv : v < 256) (he : extTab.lookup v = none) (ha : authTab.lookup v = none) (W : World) (hE : ∀ wr, Below W.heap.size W wr → ExtOk wr) (hA : ∀ wr, Below W.heap.size W wr → AuthOk wr) :
    Calls Tryd.prog 5 #[.int .u8 v] W fun e w' => e = .returned (.bool true) ∧ Below W.heap.size W w' := by
  have cE := fun w h => ext_any v (by omega) w h
  have cA := fun w h => auth_any v hv w h
  have cI := fun w => itoa_any v (by omega) w
  have hl := dec_len v (by omega)
  have cU := fun w => unk_list (unk ++ Lib.decDigits v) (by simp [unk]; omega) w
  rw [hasUnk_unk] at cU
  rw [show nameIn extTab v = unk ++ Lib.decDigits v by unfold nameIn; rw [he]] at cE
  rw [show nameIn authTab v = unk ++ Lib.decDigits v by unfold nameIn; rw [ha]] at cA
  clear he ha
  have HE := Lib.hid hE
  have HA := Lib.hid hA
  have CE := Lib.hid cE
  have CA := Lib.hid cA
  have CI := Lib.hid cI
  have CU := Lib.hid cU
  clear hE hA cE cA cI cU
  go_enter Tryd.func5, Tryd.ntmps5
  go_wp2_with fail
  refine (CE.out _ (HE.out _ (Below.refl _ _))).mono ?_
  rintro e w1 ⟨rfl, h1⟩
  go_wp2_with fail
  refine (CA.out _ (HA.out _ h1)).mono ?_
  rintro e w2 ⟨rfl, h2⟩
  have t2 : Below W.heap.size W w2 := h1.trans (h2.mono h1.size)
  clear h1 h2
  go_wp2_with fail
  refine (CI.out _).mono ?_
  rintro e w3 ⟨rfl, h3⟩
  have t3 : Below W.heap.size W w3 := t2.trans (h3.mono t2.size)
  clear t2 h3
  go_wp2_with fail
  try rw [cat_unk]
  generalize unk ++ Lib.decDigits v = L at *
  refine (CU.out _).mono ?_
  rintro e w4 ⟨rfl, rfl⟩
  go_wp2_with fail
  refine (CU.out _).mono ?_
  rintro e w5 ⟨rfl, rfl⟩
  go_wp2_with fail
  all_goals (refine (CU.out _).mono ?_; rintro e w6 ⟨rfl, rfl⟩; go_wp2_with fail)
  all_goals (refine (CU.out _).mono ?_; rintro e w7 ⟨rfl, rfl⟩; go_wp2; go_ret; exact ⟨rfl, t3⟩)

set_option maxHeartbeats 1600000 in
/-- The extension alone is known. -/
theorem walk5_ext (v : Nat) (hv : v < 256) (s : List UInt8) (he : extTab.lookup v = some s) (ha : authTab.lookup v = none) (W : World) (hE : ∀ wr, Below W.heap.size W wr → ExtOk wr) (hA : ∀ wr, Below W.heap.size W wr → AuthOk wr) :
    Calls Tryd.prog 5 #[.int .u8 v] W fun e w' => e = .returned (.bool true) ∧ Below W.heap.size W w' := by
  have cE := fun w h => ext_any v (by omega) w h
  have cA := fun w h => auth_any v hv w h
  have cI := fun w => itoa_any v (by omega) w
  have hl := dec_len v (by omega)
  have cU := fun w => unk_list (unk ++ Lib.decDigits v) (by simp [unk]; omega) w
  rw [hasUnk_unk] at cU
  rw [show nameIn extTab v = s by unfold nameIn; rw [he]] at cE
  rw [show nameIn authTab v = unk ++ Lib.decDigits v by unfold nameIn; rw [ha]] at cA
  have hlt : (v : Int) < 14 := by
    by_cases h : 14 ≤ v
    · rw [ext_none h hv] at he; cases he
    · omega
  have cS := fun w => unk_list s ((good_of ext_good).len he) w
  have hs := (good_of ext_good).noUnk he
  rw [hs] at cS
  have hne : (s == unk ++ Lib.decDigits v) = false := beq_eq_false_iff_ne.2 fun e => by rw [e, hasUnk_unk] at hs; cases hs
  have CS := Lib.hid cS
  clear cS hs he ha
  have HE := Lib.hid hE
  have HA := Lib.hid hA
  have CE := Lib.hid cE
  have CA := Lib.hid cA
  have CI := Lib.hid cI
  have CU := Lib.hid cU
  clear hE hA cE cA cI cU
  go_enter Tryd.func5, Tryd.ntmps5
  go_wp2_with fail
  refine (CE.out _ (HE.out _ (Below.refl _ _))).mono ?_
  rintro e w1 ⟨rfl, h1⟩
  go_wp2_with fail
  refine (CA.out _ (HA.out _ h1)).mono ?_
  rintro e w2 ⟨rfl, h2⟩
  have t2 : Below W.heap.size W w2 := h1.trans (h2.mono h1.size)
  clear h1 h2
  go_wp2_with fail
  refine (CI.out _).mono ?_
  rintro e w3 ⟨rfl, h3⟩
  have t3 : Below W.heap.size W w3 := t2.trans (h3.mono t2.size)
  clear t2 h3
  go_wp2_with fail
  try rw [cat_unk]
  generalize unk ++ Lib.decDigits v = L at *
  refine (CS.out _).mono ?_
  rintro e w4 ⟨rfl, rfl⟩
  go_wp2_with fail
  refine (CU.out _).mono ?_
  rintro e w5 ⟨rfl, rfl⟩
  go_wp2_with fail
  all_goals (refine (CS.out _).mono ?_; rintro e w6 ⟨rfl, rfl⟩; go_wp2; go_ret; exact ⟨rfl, t3⟩)

set_option maxHeartbeats 1600000 in
/-- Both are known. -/
theorem walk5_both (v : Nat) (hv : v < 256) (s s' : List UInt8) (he : extTab.lookup v = some s) (ha : authTab.lookup v = some s') (W : World) (hE : ∀ wr, Below W.heap.size W wr → ExtOk wr) (hA : ∀ wr, Below W.heap.size W wr → AuthOk wr) :
    Calls Tryd.prog 5 #[.int .u8 v] W fun e w' => e = .returned (.bool true) ∧ Below W.heap.size W w' := by
  have cE := fun w h => ext_any v (by omega) w h
  have cA := fun w h => auth_any v hv w h
  have cI := fun w => itoa_any v (by omega) w
  have hl := dec_len v (by omega)
  have cU := fun w => unk_list (unk ++ Lib.decDigits v) (by simp [unk]; omega) w
  rw [hasUnk_unk] at cU
  rw [show nameIn extTab v = s by unfold nameIn; rw [he]] at cE
  rw [show nameIn authTab v = s' by unfold nameIn; rw [ha]] at cA
  have hlt : (v : Int) < 4 := by
    by_cases h : 4 ≤ v
    · rw [auth_none h] at ha; cases ha
    · omega
  have cS := fun w => unk_list s ((good_of ext_good).len he) w
  rw [(good_of ext_good).noUnk he] at cS
  have cT := fun w => unk_list s' ((good_of auth_good).len ha) w
  rw [(good_of auth_good).noUnk ha] at cT
  have hne : (s == s') = false := beq_eq_false_iff_ne.2 (apart_names he ha)
  have CS := Lib.hid cS
  have CT := Lib.hid cT
  clear cS cT he ha
  have HE := Lib.hid hE
  have HA := Lib.hid hA
  have CE := Lib.hid cE
  have CA := Lib.hid cA
  have CI := Lib.hid cI
  have CU := Lib.hid cU
  clear hE hA cE cA cI cU
  go_enter Tryd.func5, Tryd.ntmps5
  go_wp2_with fail
  refine (CE.out _ (HE.out _ (Below.refl _ _))).mono ?_
  rintro e w1 ⟨rfl, h1⟩
  go_wp2_with fail
  refine (CA.out _ (HA.out _ h1)).mono ?_
  rintro e w2 ⟨rfl, h2⟩
  have t2 : Below W.heap.size W w2 := h1.trans (h2.mono h1.size)
  clear h1 h2
  go_wp2_with fail
  refine (CI.out _).mono ?_
  rintro e w3 ⟨rfl, h3⟩
  have t3 : Below W.heap.size W w3 := t2.trans (h3.mono t2.size)
  clear t2 h3
  go_wp2_with fail
  try rw [cat_unk]
  generalize unk ++ Lib.decDigits v = L at *
  refine (CS.out _).mono ?_
  rintro e w4 ⟨rfl, rfl⟩
  go_wp2_with fail
  refine (CT.out _).mono ?_
  rintro e w5 ⟨rfl, rfl⟩
  go_wp2_with fail
  all_goals (refine (CS.out _).mono ?_; rintro e w6 ⟨rfl, rfl⟩; go_wp2; go_ret; exact ⟨rfl, t3⟩)

theorem walk5 (v : Nat) (hv : v < 256) (W : World) (hE : ∀ wr, Below W.heap.size W wr → ExtOk wr) (hA : ∀ wr, Below W.heap.size W wr → AuthOk wr) :
    Calls Tryd.prog 5 #[.int .u8 v] W fun e w' => e = .returned (.bool true) ∧ Below W.heap.size W w' := by
  cases he : extTab.lookup v with
  | none =>
    have ha : authTab.lookup v = none := by
      by_cases h : 4 ≤ v
      · exact auth_none h
      · obtain ⟨s, hs⟩ := ext_some (v := v) (by omega)
        rw [hs] at he
        cases he
    exact walk5_none v hv he ha W hE hA
  | some s =>
    cases ha : authTab.lookup v with
    | none => exact walk5_ext v hv s he ha W hE hA
    | some s' => exact walk5_both v hv s s' he ha W hE hA
end Go.Proofs.Qxb6613161aDoor
