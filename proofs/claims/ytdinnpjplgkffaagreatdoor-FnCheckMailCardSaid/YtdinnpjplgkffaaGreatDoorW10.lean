/-
  Walks: domainNameValid, impl.Valid. Texts of at most 2^31 bytes.
-/
import Derived.Test.YtdinnpjplgkffaaGreatDoorPNames
namespace Go.Proofs.YtdinnpjplgkffaaGreatDoor
open Go.RowKit

/-- Labels that are not empty, of visible bytes. -/
def visB (n : Nat) : Bool := 33 ≤ n && n ≤ 126
def validN (l : List UInt8) : Bool := l.all (fun c => visB c.toNat) && (splitDot l).all (fun x => !x.isEmpty)
/-- Whether a text may be a domain, or a constraint. -/
def validL (l : List UInt8) (c : Bool) : Bool := l.isEmpty || (l.getLast? != some 46 && validN (if c && l.head? == some 46 then l.drop 1 else l))

/-- What holds behind k bytes: all of them visible, the labels that have ended not empty. -/
def ValInv (l : List UInt8) (k f : Nat) : Prop := ∃ done : List ByteArray, LabInv l k f done ∧ (∀ b ∈ done, (bytes b).isEmpty = false) ∧ ∀ j (h : j < l.length), j < k → visB (l[j]).toNat = true
theorem ValInv.start (l : List UInt8) : ValInv l 0 0 := ⟨[], LabInv.start l, by simp, fun j h hj => by omega⟩
theorem ValInv.le {l : List UInt8} {k f : Nat} (h : ValInv l k f) : f ≤ k := by obtain ⟨_, h, _⟩ := h; exact h.1
theorem ValInv.other {l : List UInt8} {k f : Nat} (h : ValInv l k f) (hk : k < l.length) (hc : l[k] ≠ 46) (hv : visB (l[k]).toNat = true) : ValInv l (k + 1) f := by
  obtain ⟨d, h1, h2, h3⟩ := h
  refine ⟨d, h1.other hk hc, h2, fun j h hj => ?_⟩
  by_cases e : j = k
  · subst e; exact hv
  · exact h3 j h (by omega)
theorem ValInv.dot {l : List UInt8} {k f : Nat} (h : ValInv l k f) (hk : k < l.length) (hc : l[k] = 46) (hf : f < k) : ValInv l (k + 1) (k + 1) := by
  obtain ⟨d, h1, h2, h3⟩ := h
  refine ⟨_, h1.dot hk hc, fun b hb => ?_, fun j h hj => ?_⟩
  · rcases List.mem_append.1 hb with hb | hb
    · exact h2 b hb
    · simp only [List.mem_singleton] at hb
      subst hb
      rw [bytes_ofBytes]
      simp
      omega
  · by_cases e : j = k
    · subst e; rw [hc]; rfl
    · exact h3 j h (by omega)
theorem labelsB_all {l : List UInt8} : (splitDot l).all (fun x => !x.isEmpty) = (labelsB l).all (fun b => !(bytes b).isEmpty) := by
  unfold labelsB
  rw [List.all_map]
  congr 1
theorem ValInv.empty {l : List UInt8} {k : Nat} (h : ValInv l k k) (hk : (∃ h : k < l.length, l[k] = 46) ∨ k = l.length) : validN l = false := by
  obtain ⟨d, h1, h2, h3⟩ := h
  have hm : ∃ rest, labelsB l = d ++ ofBytes [] :: rest := by
    rcases hk with ⟨hk, hc⟩ | hk
    · have := h1.dot hk hc
      obtain ⟨_, e, _⟩ := this
      rw [Nat.sub_self, List.take_zero, List.append_assoc] at e
      exact ⟨_, e⟩
    · have := h1.stop hk
      rw [hk, List.drop_length] at this
      exact ⟨[], this⟩
  obtain ⟨rest, e⟩ := hm
  unfold validN
  rw [labelsB_all, e]
  simp [bytes_ofBytes]
theorem ValInv.bad {l : List UInt8} {k : Nat} (hk : k < l.length) (hv : visB (l[k]).toNat = false) : validN l = false := by
  unfold validN
  rw [Bool.and_eq_false_iff]
  left
  rw [List.all_eq_false]
  exact ⟨l[k], List.getElem_mem hk, by simp [hv]⟩
theorem ValInv.done {l : List UInt8} {k f : Nat} (h : ValInv l k f) (hk : k = l.length) (hf : f < k) : validN l = true := by
  obtain ⟨d, h1, h2, h3⟩ := h
  have e := h1.stop hk
  unfold validN
  rw [labelsB_all, e]
  simp only [Bool.and_eq_true, List.all_eq_true, List.all_append, List.all_cons, List.all_nil, Bool.and_true, Bool.not_eq_true', bytes_ofBytes]
  refine ⟨fun c hc => ?_, h2, ?_⟩
  · obtain ⟨j, hj, rfl⟩ := List.getElem_of_mem hc
    exact h3 j hj (by omega)
  · simp; omega

theorem ne46 {c : UInt8} (hc : c ≠ 46) : ((c.toNat : Int) == 46) = false := by
  simp only [beq_eq_false_iff_ne]
  intro h
  exact hc (UInt8.toNat_inj.1 (by have : (46 : UInt8).toNat = 46 := rfl; omega))
theorem eq46 {c : UInt8} (hc : c = 46) : ((c.toNat : Int) == 46) = true := by rw [hc]; rfl

set_option maxHeartbeats 4000000 in
theorem domainValid_any (s : ByteArray) (c : Bool) (hs : s.size ≤ 2147483647) (w : World) :
    Calls Tryz.prog 43 #[.string s, .bool c] w fun e w' => e = .returned (.bool (validL (bytes s) c)) ∧ w = w' := by
  by_cases h0 : s.size = 0
  · have e : validL (bytes s) c = true := by
      have : bytes s = [] := List.eq_nil_of_length_eq_zero (by rw [bytes_length]; exact h0)
      rw [this]; rfl
    rw [e]
    have h0' : ((s.size : Int) == 0) = true := by simp [h0]
    clear h0 e
    go_enter Tryz.func43, Tryz.ntmps43
    go_wp2
    go_ret
    exact ⟨rfl, rfl⟩
  have h0' : ((s.size : Int) == 0) = false := beq_eq_false_iff_ne.2 (by omega)
  have p0 : 0 < s.size := by omega
  have p1 : s.size - 1 < s.size := by omega
  have hv : validL (bytes s) c = (s[s.size - 1]'p1 != 46 && validN (if c && s[0]'p0 == 46 then (bytes s).drop 1 else bytes s)) := by
    unfold validL
    rw [bytes_head s p0, bytes_last s p1]
    have : (bytes s).isEmpty = false := by
      cases hb : bytes s with
      | nil => have := bytes_length s; rw [hb] at this; simp at this; omega
      | cons _ _ => rfl
    rw [this]
    rfl
  by_cases hd : s[s.size - 1]'p1 = 46
  · rw [hd] at hv
    have e : validL (bytes s) c = false := by rw [hv]; simp
    rw [e]
    have hd' := eq46 hd
    clear h0 e hv hd
    go_enter Tryz.func43, Tryz.ntmps43
    go_wp2
    go_ret
    exact ⟨rfl, rfl⟩
  have hd' := ne46 hd
  rw [show (s[s.size - 1]'p1 != 46) = true by simp [hd], Bool.true_and] at hv
  by_cases hcd : c = true ∧ s[0]'p0 = 46
  · obtain ⟨rfl, hz⟩ := hcd
    obtain ⟨u, hu⟩ : ∃ u, s.extract 1 s.size = u := ⟨_, rfl⟩
    have e1 : bytes u = (bytes s).drop 1 := by
      rw [← hu, bytes_extract]
      exact List.take_of_length_le (by rw [List.length_drop, bytes_length]; omega)
    have e : validL (bytes s) true = validN (bytes u) := by
      rw [hv, hz, e1]
      rfl
    have hsz : u.size ≤ 2147483647 := by rw [← bytes_length, e1, List.length_drop, bytes_length]; omega
    rw [e]
    have hz' := eq46 hz
    have hp : 1 ≤ s.size := by omega
    clear h0 e hv hd hz e1
    go_enter Tryz.func43, Tryz.ntmps43
    go_wp2
    clear hu
    have HL := Lib.hid (bytes_length (u))
    have I0 : Aside (ValInv (bytes (u)) 0 0) := ValInv.start _
    go_loopg [5, 6] ((u).size + 2) (fun kx d i wr => w = wr ∧ ∃ k f : Nat, k ≤ (u).size + 1 ∧ (u).size + 2 - k ≤ kx ∧ f ≤ k ∧ i = .int .i64 k ∧ d = .int .i64 ((f : Int) - 1) ∧ Aside ((k ≤ (u).size → ValInv (bytes (u)) k f) ∧ (k = (u).size + 1 → validN (bytes (u)) = true)))
    case atStart => exact ⟨rfl, 0, 0, by omega, by omega, by omega, rfl, rfl, fun _ => I0, fun h => by omega⟩
    case round =>
      clear I0
      obtain ⟨rfl, k, f, hk, hg, hf, rfl, rfl, A⟩ := hrel
      by_cases hle : k ≤ (u).size
      · have A1 := A.out.1 hle
        clear A
        by_cases hlt : k < (u).size
        · have hkl : k < (bytes (u)).length := by rw [HL.out]; exact hlt
          have hbe := bytes_at (u) k hlt hkl
          by_cases hvis : visB ((u)[k]'hlt).toNat = true
          · have hv1 : 33 ≤ ((u)[k]'hlt).toNat ∧ ((u)[k]'hlt).toNat ≤ 126 := by unfold visB at hvis; simp at hvis; exact hvis
            obtain ⟨hv1, hv2⟩ := hv1
            by_cases hdot : (u)[k]'hlt = 46
            · have hdc := eq46 hdot
              have hkn : ((k : Int) == ((u).size : Int)) = false := by simp; omega
              by_cases hfk : f < k
              · have A2 : Aside ((k + 1 ≤ (u).size → ValInv (bytes (u)) (k + 1) (k + 1)) ∧ (k + 1 = (u).size + 1 → validN (bytes (u)) = true)) := ⟨fun _ => A1.dot hkl (hbe.trans hdot) hfk, fun h => by omega⟩
                clear A1 hbe hvis hdot
                have hff : (f = 0 ∧ ((k : Int) == 0) = false) ∨ (1 ≤ f ∧ ((k : Int) - (f : Int) == 0) = false) := by
                  by_cases h : f = 0
                  · left; simp; omega
                  · right; simp; omega
                rcases hff with ⟨rfl, hff⟩ | ⟨h1, hff⟩
                all_goals
                  go_wp2
                  go_roundg ((u).size + 2 - (k + 1))
                  case measure => omega
                  case rel => exact ⟨rfl, k + 1, k + 1, by omega, by omega, by omega, by go_num, by go_num, A2⟩
              · obtain rfl : f = k := by omega
                have F := Lib.hid (A1.empty (.inl ⟨hkl, hbe.trans hdot⟩))
                clear A1 hbe hvis hdot
                have hff : (f = 0) ∨ (1 ≤ f) := by omega
                rcases hff with rfl | h1
                all_goals
                  go_wp2
                  try (go_ret; exact ⟨ret_bool F.out.symm, rfl⟩)
            · have hdc := ne46 hdot
              have A2 : Aside ((k + 1 ≤ (u).size → ValInv (bytes (u)) (k + 1) f) ∧ (k + 1 = (u).size + 1 → validN (bytes (u)) = true)) := ⟨fun _ => A1.other hkl (fun h => hdot (hbe.symm.trans h)) (by rw [hbe]; exact hvis), fun h => by omega⟩
              have hkn : ((k : Int) == ((u).size : Int)) = false := by simp; omega
              clear A1 hbe hvis hdot
              go_wp2
              go_roundg ((u).size + 2 - (k + 1))
              case measure => omega
              case rel => exact ⟨rfl, k + 1, f, by omega, by omega, by omega, by go_num, rfl, A2⟩
          · have hvis' : visB ((u)[k]'hlt).toNat = false := by simpa using hvis
            have F := Lib.hid (ValInv.bad hkl (by rw [hbe]; exact hvis'))
            have hvv : ((u)[k]'hlt).toNat < 33 ∨ (33 ≤ ((u)[k]'hlt).toNat ∧ 126 < ((u)[k]'hlt).toNat) := by unfold visB at hvis'; simp at hvis'; omega
            clear A1 hbe hvis hvis'
            rcases hvv with h1 | ⟨h1, h2⟩
            all_goals
              go_wp2
              go_ret
              exact ⟨ret_bool F.out.symm, rfl⟩
        · obtain rfl : k = (u).size := by omega
          by_cases hfk : f < (u).size
          · have A2 := Lib.hid (A1.done HL.out.symm hfk)
            have hff : (f = 0 ∧ (((u).size : Int) == 0) = false) ∨ (1 ≤ f ∧ (((u).size : Int) - (f : Int) == 0) = false) := by
              by_cases h : f = 0
              · exact .inl ⟨h, beq_eq_false_iff_ne.2 (by omega)⟩
              · exact .inr ⟨by omega, beq_eq_false_iff_ne.2 (by omega)⟩
            clear A1
            rcases hff with ⟨rfl, hff⟩ | ⟨h1, hff⟩
            all_goals
              go_wp2
              go_roundg ((u).size + 2 - ((u).size + 1))
              case measure => omega
              case rel => exact ⟨rfl, (u).size + 1, (u).size + 1, by omega, by omega, by omega, by go_num, by go_num, fun h => by omega, fun _ => A2.out⟩
          · obtain rfl : f = (u).size := by omega
            have F := Lib.hid (A1.empty (.inr HL.out.symm))
            clear A1
            have hff : ((u).size = 0) ∨ (1 ≤ (u).size) := by omega
            rcases hff with h1 | h1
            all_goals
              go_wp2
              go_ret
              exact ⟨ret_bool F.out.symm, rfl⟩
      · have F := Lib.hid (A.out.2 (by omega))
        clear A
        go_wp2
        go_ret
        exact ⟨ret_bool F.out.symm, rfl⟩
  · have e : validL (bytes s) c = validN (bytes s) := by
      rw [hv]
      cases c
      · rfl
      · rw [show (s[0]'p0 == 46) = false by simpa using hcd]; rfl
    rw [e]
    have hcc : c = false ∨ (c = true ∧ (((s[0]'p0).toNat : Int) == 46) = false) := by
      cases c
      · exact .inl rfl
      · exact .inr ⟨rfl, ne46 (by simpa using hcd)⟩
    clear h0 e hv hd hcd
    rcases hcc with rfl | ⟨rfl, hcc⟩
    all_goals
      go_enter Tryz.func43, Tryz.ntmps43
      go_wp2
      have HL := Lib.hid (bytes_length (s))
      have I0 : Aside (ValInv (bytes (s)) 0 0) := ValInv.start _
      go_loopg [5, 6] ((s).size + 2) (fun kx d i wr => w = wr ∧ ∃ k f : Nat, k ≤ (s).size + 1 ∧ (s).size + 2 - k ≤ kx ∧ f ≤ k ∧ i = .int .i64 k ∧ d = .int .i64 ((f : Int) - 1) ∧ Aside ((k ≤ (s).size → ValInv (bytes (s)) k f) ∧ (k = (s).size + 1 → validN (bytes (s)) = true)))
      case atStart => exact ⟨rfl, 0, 0, by omega, by omega, by omega, rfl, rfl, fun _ => I0, fun h => by omega⟩
      case round =>
        clear I0
        obtain ⟨rfl, k, f, hk, hg, hf, rfl, rfl, A⟩ := hrel
        by_cases hle : k ≤ (s).size
        · have A1 := A.out.1 hle
          clear A
          by_cases hlt : k < (s).size
          · have hkl : k < (bytes (s)).length := by rw [HL.out]; exact hlt
            have hbe := bytes_at (s) k hlt hkl
            by_cases hvis : visB ((s)[k]'hlt).toNat = true
            · have hv1 : 33 ≤ ((s)[k]'hlt).toNat ∧ ((s)[k]'hlt).toNat ≤ 126 := by unfold visB at hvis; simp at hvis; exact hvis
              obtain ⟨hv1, hv2⟩ := hv1
              by_cases hdot : (s)[k]'hlt = 46
              · have hdc := eq46 hdot
                have hkn : ((k : Int) == ((s).size : Int)) = false := by simp; omega
                by_cases hfk : f < k
                · have A2 : Aside ((k + 1 ≤ (s).size → ValInv (bytes (s)) (k + 1) (k + 1)) ∧ (k + 1 = (s).size + 1 → validN (bytes (s)) = true)) := ⟨fun _ => A1.dot hkl (hbe.trans hdot) hfk, fun h => by omega⟩
                  clear A1 hbe hvis hdot
                  have hff : (f = 0 ∧ ((k : Int) == 0) = false) ∨ (1 ≤ f ∧ ((k : Int) - (f : Int) == 0) = false) := by
                    by_cases h : f = 0
                    · left; simp; omega
                    · right; simp; omega
                  rcases hff with ⟨rfl, hff⟩ | ⟨h1, hff⟩
                  all_goals
                    go_wp2
                    go_roundg ((s).size + 2 - (k + 1))
                    case measure => omega
                    case rel => exact ⟨rfl, k + 1, k + 1, by omega, by omega, by omega, by go_num, by go_num, A2⟩
                · obtain rfl : f = k := by omega
                  have F := Lib.hid (A1.empty (.inl ⟨hkl, hbe.trans hdot⟩))
                  clear A1 hbe hvis hdot
                  have hff : (f = 0) ∨ (1 ≤ f) := by omega
                  rcases hff with rfl | h1
                  all_goals
                    go_wp2
                    try (go_ret; exact ⟨ret_bool F.out.symm, rfl⟩)
              · have hdc := ne46 hdot
                have A2 : Aside ((k + 1 ≤ (s).size → ValInv (bytes (s)) (k + 1) f) ∧ (k + 1 = (s).size + 1 → validN (bytes (s)) = true)) := ⟨fun _ => A1.other hkl (fun h => hdot (hbe.symm.trans h)) (by rw [hbe]; exact hvis), fun h => by omega⟩
                have hkn : ((k : Int) == ((s).size : Int)) = false := by simp; omega
                clear A1 hbe hvis hdot
                go_wp2
                go_roundg ((s).size + 2 - (k + 1))
                case measure => omega
                case rel => exact ⟨rfl, k + 1, f, by omega, by omega, by omega, by go_num, rfl, A2⟩
            · have hvis' : visB ((s)[k]'hlt).toNat = false := by simpa using hvis
              have F := Lib.hid (ValInv.bad hkl (by rw [hbe]; exact hvis'))
              have hvv : ((s)[k]'hlt).toNat < 33 ∨ (33 ≤ ((s)[k]'hlt).toNat ∧ 126 < ((s)[k]'hlt).toNat) := by unfold visB at hvis'; simp at hvis'; omega
              clear A1 hbe hvis hvis'
              rcases hvv with h1 | ⟨h1, h2⟩
              all_goals
                go_wp2
                go_ret
                exact ⟨ret_bool F.out.symm, rfl⟩
          · obtain rfl : k = (s).size := by omega
            by_cases hfk : f < (s).size
            · have A2 := Lib.hid (A1.done HL.out.symm hfk)
              have hff : (f = 0 ∧ (((s).size : Int) == 0) = false) ∨ (1 ≤ f ∧ (((s).size : Int) - (f : Int) == 0) = false) := by
                by_cases h : f = 0
                · exact .inl ⟨h, beq_eq_false_iff_ne.2 (by omega)⟩
                · exact .inr ⟨by omega, beq_eq_false_iff_ne.2 (by omega)⟩
              clear A1
              rcases hff with ⟨rfl, hff⟩ | ⟨h1, hff⟩
              all_goals
                go_wp2
                go_roundg ((s).size + 2 - ((s).size + 1))
                case measure => omega
                case rel => exact ⟨rfl, (s).size + 1, (s).size + 1, by omega, by omega, by omega, by go_num, by go_num, fun h => by omega, fun _ => A2.out⟩
            · obtain rfl : f = (s).size := by omega
              have F := Lib.hid (A1.empty (.inr HL.out.symm))
              clear A1
              have hff : ((s).size = 0) ∨ (1 ≤ (s).size) := by omega
              rcases hff with h1 | h1
              all_goals
                go_wp2
                go_ret
                exact ⟨ret_bool F.out.symm, rfl⟩
        · have F := Lib.hid (A.out.2 (by omega))
          clear A
          go_wp2
          go_ret
          exact ⟨ret_bool F.out.symm, rfl⟩
end Go.Proofs.YtdinnpjplgkffaaGreatDoor
