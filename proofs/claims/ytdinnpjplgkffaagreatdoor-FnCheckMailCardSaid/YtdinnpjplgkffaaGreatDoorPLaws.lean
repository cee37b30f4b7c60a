/-
  Small facts for the laws on mail addresses. No condition.
-/
import Derived.Test.YtdinnpjplgkffaaGreatDoorRA
import Derived.Test.YtdinnpjplgkffaaGreatDoorQA
namespace Go.Proofs.YtdinnpjplgkffaaGreatDoor
open Go.ChangeShapes Go.WideShapes Go.ChangeAt Go.RowKit

theorem mails_of {L : List ByteArray} {a d : ByteArray} (h : ¬ (2 : Int) ∈ L.map fun y => saysM y a d) : ∀ y ∈ L, MailE y := fun y hy =>
  mailE_of (a := bytes a) (d := bytes d) fun e => h (List.mem_map.2 ⟨y, hy, e⟩)
theorem fnd_mails {L : List ByteArray} {a d : ByteArray} (h : ¬ (2 : Int) ∈ L.map fun y => saysM y a d) (hd : nameOk (bytes d) = true) {b : Bool} (hb : b = true ↔ MetM L (bytes a) (lowL (bytes d))) : fnd (L.map fun y => saysM y a d) = if b = true then 1 else 0 := by
  have h1 : (1 : Int) ∈ (L.map fun y => saysM y a d) ↔ b = true := by
    rw [hb, List.mem_map]
    unfold MetM
    constructor
    · rintro ⟨y, hy, e⟩
      exact ⟨y, hy, (mailS_one hd (fun e2 => h (List.mem_map.2 ⟨y, hy, e2⟩))).1 e⟩
    · rintro ⟨y, hy, e⟩
      exact ⟨y, hy, (mailS_one hd (fun e2 => h (List.mem_map.2 ⟨y, hy, e2⟩))).2 e⟩
  unfold fnd
  rw [if_neg h]
  by_cases hbt : b = true
  · rw [if_pos (h1.2 hbt), if_pos hbt]
  · rw [if_neg (fun e => hbt (h1.1 e)), if_neg hbt]
theorem refB_ruleM {L1 L2 : List ByteArray} {a d : ByteArray} (t1 : ¬ (2 : Int) ∈ L1.map fun y => saysM y a d) (t2 : ¬ (2 : Int) ∈ L2.map fun y => saysM y a d) (hd : nameOk (bytes d) = true) {b1 b2 : Bool} (hb1 : b1 = true ↔ MetM L1 (bytes a) (lowL (bytes d))) (hb2 : b2 = true ↔ MetM L2 (bytes a) (lowL (bytes d))) :
    ruleV (L1.map fun y => saysM y a d) (L2.map fun y => saysM y a d) = codeI (refB (askL L1 b1) (askL L2 b2)) := by
  have e2 : L2 = [] → b2 = false := fun e => by
    cases b2
    · rfl
    · obtain ⟨y, hy, -⟩ := hb2.1 rfl
      rw [e] at hy; cases hy
  unfold ruleV refB askL codeI
  simp only [fnd_mails t1 hd hb1, fnd_mails t2 hd hb2, List.map_eq_nil_iff]
  by_cases g1 : L1 = []
  · rw [if_pos g1, if_pos g1]
    by_cases g2 : L2 = []
    · rw [e2 g2, if_pos g2]; decide
    · rw [if_neg g2]; cases b2 <;> decide
  · rw [if_neg g1, if_neg g1]
    by_cases g2 : L2 = []
    · rw [e2 g2, if_pos g2]; cases b1 <;> decide
    · rw [if_neg g2]; cases b1 <;> cases b2 <;> decide

/-! ### ONE MAILBOX, EXCLUDED -/
theorem at_bytes (a d : ByteArray) : bytes ((a ++ ⟨#[64]⟩) ++ d) = bytes a ++ 64 :: bytes d := by rw [bytes_append, bytes_append, List.append_assoc]; rfl
theorem local_no64 {l : List UInt8} (h : localOk l) : (64 : UInt8) ∉ l := fun hm => (locL_byte (localOk_locL h).1 64 hm).2.2.2 rfl
theorem one_cut {a d : ByteArray} (ha : localOk (bytes a)) (hd : nameOk (bytes d) = true) : cutL (bytes ((a ++ ⟨#[64]⟩) ++ d)) = some (bytes a, bytes d) := by
  rw [at_bytes]
  exact cutL_some.2 ⟨rfl, local_no64 ha, no64 (nameOk_bytes hd)⟩
theorem one_mail {a d : ByteArray} (ha : localOk (bytes a)) (hd : nameOk (bytes d) = true) : MailE ((a ++ ⟨#[64]⟩) ++ d) := mailE_mbox ⟨_, _, one_cut ha hd, ha, hd⟩
theorem one_met {a b d : ByteArray} {v : List UInt8} (ha : localOk (bytes a)) (hd : nameOk (bytes d) = true) (hv : lowL v = lowL (bytes d)) : MetM [(a ++ ⟨#[64]⟩) ++ d] (bytes b) (lowL v) ↔ bytes a = bytes b := by
  unfold MetM
  constructor
  · rintro ⟨y, hy, h⟩
    rw [List.mem_singleton.1 hy] at h
    rcases h with ⟨q, e, -⟩ | ⟨e, -⟩
    · rw [one_cut ha hd] at e
      injection e with e
      injection e
    · exact absurd (cutL_mem (one_cut ha hd)) e
  · intro h
    refine ⟨_, List.mem_singleton.2 rfl, .inl ⟨bytes d, ?_, hv.symm⟩⟩
    rw [one_cut ha hd, h]
theorem own_check {a b d : ByteArray} (ha : localOk (bytes a)) (hb : localOk (bytes b)) (hd : nameOk (bytes d) = true) (s : ByteArray) (v : List UInt8) (hv : nameOk v = true) (hlv : lowL v = lowL (bytes d)) (hs : parseM (bytes s) = some (bytes b, v)) (hz : s.size ≤ 1000) (q : Bool) (hq : q = true ↔ bytes a = bytes b)
    (g : Nat) (W : World) (h : Rd W (some ⟨g, 0, none⟩) (strs [(a ++ ⟨#[64]⟩) ++ d])) : Calls Tryz.prog 12 #[.slice none 0 0, .slice (some ⟨g, 0, none⟩) 1 1, .string s] W (Ret (.int .i64 (codeI q)) W) := by
  have hl := (localOk_locL hb).2
  exact implCheckMail_any none (some ⟨g, 0, none⟩) 0 0 1 1 [] [(a ++ ⟨#[64]⟩) ++ d] s (bytes b) v W hz hs (by omega) hv rfl rfl (Nat.zero_le _) (by simp) (fun _ => rfl) (fun e => (by cases e)) (Rd.nil _ _) h (fun y hy => by cases hy) (fun y hy => by rw [List.mem_singleton.1 hy]; exact one_mail ha hd) false q
    ⟨fun e => (by cases e), fun ⟨y, hy, _⟩ => by cases hy⟩ (by rw [hq]; exact (one_met ha hd hlv).symm) q (by unfold refB askL; cases q <;> rfl)
theorem own_plain {b d : ByteArray} (hb : localOk (bytes b)) (hd : nameOk (bytes d) = true) : parseM (bytes ((b ++ ⟨#[64]⟩) ++ d)) = some (bytes b, bytes d) := by
  rw [at_bytes]; exact parseM_local (localOk_locL hb).1 hd
theorem own_plain_size {b d : ByteArray} (hb : localOk (bytes b)) (hd : nameOk (bytes d) = true) : ((b ++ ⟨#[64]⟩) ++ d).size ≤ 1000 := by
  have h1 := (localOk_locL hb).2
  have h2 := nameOk_size hd
  rw [bytes_length] at h1 h2
  simp [ByteArray.size_mk']
  omega
theorem own_lower {b d : ByteArray} (hb : localOk (bytes b)) (hd : nameOk (bytes d) = true) : parseM (bytes ((b ++ ⟨#[64]⟩) ++ ofBytes (lowL (bytes d)))) = some (bytes b, lowL (bytes d)) := by
  rw [at_bytes, bytes_ofBytes]; exact parseM_local (localOk_locL hb).1 (by rw [nameOk_low]; exact hd)
theorem own_lower_size {b d : ByteArray} (hb : localOk (bytes b)) (hd : nameOk (bytes d) = true) : ((b ++ ⟨#[64]⟩) ++ ofBytes (lowL (bytes d))).size ≤ 1000 := by
  refine own_plain_size hb ?_
  rw [bytes_ofBytes, nameOk_low]; exact hd
theorem unq_quo {c : UInt8} (h : unqB c = true) (h1 : c ≠ 34) (h2 : c ≠ 92) : quoB c = true ∧ escB false c = false := by
  unfold unqB at h
  unfold quoB escB
  simp only [Bool.or_eq_true, Bool.and_eq_true, decide_eq_true_eq, bne_iff_ne, ne_eq, ← UInt8.toNat_inj, beq_iff_eq, Bool.or_eq_false_iff, beq_eq_false_iff_ne, UInt8.toNat_ofNat, true_and] at h h1 h2 ⊢
  omega
theorem own_quoted {a d : ByteArray} (ha : localOk (bytes a)) (hd : nameOk (bytes d) = true) : parseM (bytes (((⟨#[34]⟩ ++ a) ++ ⟨#[34, 64]⟩) ++ d)) = some (bytes a, bytes d) := by
  have hq : ∀ c ∈ bytes a, quoB c = true ∧ escB false c = false := fun c hc => by
    have h := locL_byte (localOk_locL ha).1 c hc
    exact unq_quo h.1 h.2.2.1 h.2.1
  have hbody : quoBody false (bytes a) = bytes a := by
    have : ∀ l : List UInt8, (∀ c ∈ l, escB false c = false) → quoBody false l = l := fun l => by
      induction l with
      | nil => intro _; rfl
      | cons c r ih =>
        intro h
        have e : quoBody false (c :: r) = (if escB false c then [92, c] else [c]) ++ quoBody false r := by unfold quoBody; rw [List.flatMap_cons]
        rw [e, h c (by simp), ih fun x hx => h x (by simp [hx])]
        rfl
    exact this _ fun c hc => (hq c hc).2
  have e : bytes (((⟨#[34]⟩ ++ a) ++ ⟨#[34, 64]⟩) ++ d) = quoL false (bytes a) ++ 64 :: bytes d := by
    unfold quoL
    rw [hbody, bytes_append, bytes_append, bytes_append]
    show (([34] ++ bytes a) ++ [34, 64]) ++ bytes d = _
    simp
  rw [e]
  exact parseM_quoted false ⟨fun c hc => (hq c hc).1, (localOk_locL ha).2⟩ hd
theorem own_quoted_size {a d : ByteArray} (ha : localOk (bytes a)) (hd : nameOk (bytes d) = true) : (((⟨#[34]⟩ ++ a) ++ ⟨#[34, 64]⟩) ++ d).size ≤ 1000 := by
  have h1 := (localOk_locL ha).2
  have h2 := nameOk_size hd
  rw [bytes_length] at h1 h2
  simp [ByteArray.size_mk']
  omega
end Go.Proofs.YtdinnpjplgkffaaGreatDoor
