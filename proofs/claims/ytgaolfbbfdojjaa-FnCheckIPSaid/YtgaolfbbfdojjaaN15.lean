/-
  Walks: query, ZZQueryIP, impl.QueryIP.
-/
import Derived.Test.YtgaolfbbfdojjaaN14
namespace Go.Proofs.Ytgaolfbbfdojjaa
open Go.ChangeShapes Go.WideShapes Go.ChangeAt Go.RowKit

theorem InN.len {ad ms l : List UInt8} (h : InN ad ms l) : l.length = ad.length := h.1
theorem met4 {ps : List (Nat × NetA)} {l : List UInt8} (hl : l.length = 4) : (∃ p ∈ ps, InN p.2.ad p.2.ms l) ↔ ∃ p ∈ F4 ps, InN p.2.ad p.2.ms l := by
  constructor
  · rintro ⟨p, hp, h⟩
    exact ⟨p, List.mem_filter.2 ⟨hp, by have := h.len; simp; omega⟩, h⟩
  · rintro ⟨p, hp, h⟩
    exact ⟨p, (List.mem_filter.1 hp).1, h⟩
theorem met6 {ps : List (Nat × NetA)} {l : List UInt8} (hl : l.length ≠ 4) : (∃ p ∈ ps, InN p.2.ad p.2.ms l) ↔ ∃ p ∈ F6 ps, InN p.2.ad p.2.ms l := by
  constructor
  · rintro ⟨p, hp, h⟩
    exact ⟨p, List.mem_filter.2 ⟨hp, by have := h.len; simp; omega⟩, h⟩
  · rintro ⟨p, hp, h⟩
    exact ⟨p, (List.mem_filter.1 hp).1, h⟩
set_option maxHeartbeats 1000000 in
theorem query_any (g : Nat) (s8 s9 : Value) (w W : World) (ps : List (Nat × NetA)) (c8 : W.cell? ⟨g, 0, none⟩ = some s8) (c9 : W.cell? ⟨g, 1, none⟩ = some s9) (hT : Two w (F4 ps) (F6 ps) s8 s9 W)
    (A : Option Addr) (n c : Nat) (l : List UInt8) (hn : n = l.length) (hc : n ≤ c) (hr : Rd w A (u8s l)) (ha : AddrOk l) (b : Bool) (hb : b = true ↔ ∃ p ∈ ps, InN p.2.ad p.2.ms l) :
    Calls Try.prog 94 #[.pointer (some ⟨g, 0, none⟩), .slice A n c] W (FoundPost b W) := by
  have hl := ha.len
  by_cases h4 : l.length = 4
  · have h4' : ((n : Int) == 4) = true := by rw [hn, h4]; rfl
    have hb4 := hb.trans (met4 h4)
    obtain ⟨cs, hs⟩ := hT.set4
    rcases hs with ⟨h0, rfl, -⟩ | ⟨c', blk, -, rfl, hs, -, -⟩
    · have F : Hid (b = false) := by
        rw [h0] at hb4
        cases b
        · rfl
        · obtain ⟨p, hp, -⟩ := hb4.1 rfl
          cases hp
      clear hb hb4 h0 hr ha hl h4 hn hT
      go_enter Try.func94, Try.ntmps94
      go_wp2
      go_ret2
      exact ⟨_, ret_v (by rw [F.out]; rfl), Below.refl _ _⟩
    · have HS := Lib.hid (hs.search A n c l hn hc hr ha b hb4)
      clear hb hb4 hr ha hl h4 hn hT hs
      go_enter Try.func94, Try.ntmps94
      go_wp2_with ((with_reducible refine HS.out.mono ?_); rintro e w1 ⟨v, rfl, hb1⟩)
      go_ret2
      exact ⟨v, rfl, hb1⟩
  · have h4' : ((n : Int) == 4) = false := by rw [beq_eq_false_iff_ne]; omega
    have hb6 := hb.trans (met6 h4)
    obtain ⟨cs, hs⟩ := hT.set6
    rcases hs with ⟨h0, rfl, -⟩ | ⟨c', blk, -, rfl, hs, -, -⟩
    · have F : Hid (b = false) := by
        rw [h0] at hb6
        cases b
        · rfl
        · obtain ⟨p, hp, -⟩ := hb6.1 rfl
          cases hp
      clear hb hb6 h0 hr ha hl h4 hn hT
      go_enter Try.func94, Try.ntmps94
      go_wp2
      go_ret2
      exact ⟨_, ret_v (by rw [F.out]; rfl), Below.refl _ _⟩
    · have HS := Lib.hid (hs.search A n c l hn hc hr ha b hb6)
      clear hb hb6 hr ha hl h4 hn hT hs
      go_enter Try.func94, Try.ntmps94
      go_wp2_with ((with_reducible refine HS.out.mono ?_); rintro e w1 ⟨v, rfl, hb1⟩)
      go_ret2
      exact ⟨v, rfl, hb1⟩
theorem newIP_nil (A : Option Addr) (c : Nat) (w : World) : Calls Try.prog 37 #[.slice A 0 c] w (Same .nilIface w) := by
  go_enter Try.func37, Try.ntmps37
  go_wp2
  go_ret
  exact ⟨rfl, rfl⟩
set_option maxRecDepth 100000 in
theorem method_query (a : Addr) (w : World) (s : String) (hs : s = (String.ofList (List.map Char.ofNat [108, 111, 111, 112, 46, 101, 120, 97, 109, 112, 108, 101, 47, 112, 117, 98, 45, 103, 48, 51, 49, 50, 57, 47, 112, 117, 98, 47, 110, 97, 109, 101, 99, 111, 110, 115, 116, 114, 97, 105, 110, 116, 115, 46, 113, 117, 101, 114, 121]))) : (method 259 87 (.pointer (some a)) s).run Try.prog w = .ok (94, .pointer (some a)) w := by
  subst hs
  kernel_rfl
set_option maxRecDepth 100000 in
set_option maxHeartbeats 1000000 in
theorem zzQueryIP_any (B : Option Addr) (m d : Nat) (ps : List (Nat × NetA)) (w : World) (hm : m = ps.length) (hl : ps.length ≤ 2147483647) (hrp : Rd w B (ps.map encP)) (hs : ∀ p ∈ ps, IsN w p)
    (A : Option Addr) (n c : Nat) (l : List UInt8) (hn : n = l.length) (hc : n ≤ c) (hr : Rd w A (u8s l)) (ha : AddrOk l) (b : Bool) (hb : b = true ↔ ∃ p ∈ ps, InN p.2.ad p.2.ms l) :
    Calls Try.prog 29 #[.slice B m d, .slice A n c] w (FoundPost b w) := by
  subst hn
  by_cases h0 : ps = []
  · have F : Hid (b = false) := by
      cases b
      · rfl
      · obtain ⟨p, hp, -⟩ := hb.1 rfl
        rw [h0] at hp; cases hp
    obtain rfl : m = 0 := by rw [hm, h0]; rfl
    have HN := Lib.hid (newIP_nil B d w)
    clear hm hrp hs hr ha hb h0
    go_enter Try.func29, Try.ntmps29
    go_wp2_with ((with_reducible refine HN.out.mono ?_); rintro e w1 ⟨rfl, rfl⟩)
    go_ret2
    exact ⟨_, ret_v (by rw [F.out]; rfl), Below.refl _ _⟩
  · have HN := Lib.hid (newIP_any B m d ps w hm hl h0 hrp hs)
    have HQ : Hid (∀ g s8 s9 W, W.cell? ⟨g, 0, none⟩ = some s8 → W.cell? ⟨g, 1, none⟩ = some s9 → Two w (F4 ps) (F6 ps) s8 s9 W → Calls Try.prog 94 #[.pointer (some ⟨g, 0, none⟩), .slice A l.length c] W (FoundPost b W)) := fun g s8 s9 W h1 h2 h3 =>
      query_any g s8 s9 w W ps h1 h2 h3 A _ c l rfl hc hr ha b hb
    clear hm hrp hs hr ha hb h0
    go_enter Try.func29, Try.ntmps29
    go_wp2_with fail
    refine HN.out.mono ?_
    rintro e w1 ⟨g, s8, s9, rfl, c8, c9, hT⟩
    have HC := Lib.hid (HQ.out g s8 s9 w1 c8 c9 hT)
    have HO := Lib.hid hT.old
    clear c8 c9 hT HQ HN
    go_wp2_with fail
    rw [method_query _ _ _ (by kernel_rfl)]
    simp only [Result.andThen]
    rw [enters_of Try.func94 (by kernel_rfl) rfl, Oper.upon_enter]
    refine HC.out.mono ?_
    rintro e w2 ⟨v, rfl, hb2⟩
    have HO2 := Lib.hid (HO.out.trans (hb2.mono HO.out.size))
    clear hb2 HC HO
    go_wp2
    go_ret2
    exact ⟨v, rfl, HO2.out⟩
/-- Whether an address meets one of some networks. -/
def Met (ns : List NetA) (l : List UInt8) : Prop := ∃ N ∈ ns, InN N.ad N.ms l
theorem met_keys {ns : List NetA} {ps : List (Nat × NetA)} (h : ps.map (fun p => keyA p.2) = ns.map keyA) (l : List UInt8) : (∃ p ∈ ps, InN p.2.ad p.2.ms l) ↔ Met ns l := by
  unfold Met
  constructor
  · rintro ⟨p, hp, hi⟩
    have : keyA p.2 ∈ ns.map keyA := by rw [← h]; exact List.mem_map.2 ⟨p, hp, rfl⟩
    obtain ⟨N, hN, e⟩ := List.mem_map.1 this
    simp only [keyA, Prod.mk.injEq] at e
    exact ⟨N, hN, by rw [e.1, e.2]; exact hi⟩
  · rintro ⟨N, hN, hi⟩
    have : keyA N ∈ ps.map (fun p => keyA p.2) := by rw [h]; exact List.mem_map.2 ⟨N, hN, rfl⟩
    obtain ⟨p, hp, e⟩ := List.mem_map.1 this
    simp only [keyA, Prod.mk.injEq] at e
    exact ⟨p, hp, by rw [e.1, e.2]; exact hi⟩
theorem isN_keys {ns : List NetA} {ps : List (Nat × NetA)} {w : World} (h : ps.map (fun p => keyA p.2) = ns.map keyA) (hg : ∀ N ∈ ns, NetGood N.ad N.ms) (hp : ∀ p ∈ ps, NetP w p.1 p.2) : ∀ p ∈ ps, IsN w p := fun p hpp => by
  refine ⟨hp p hpp, ?_⟩
  have : keyA p.2 ∈ ns.map keyA := by rw [← h]; exact List.mem_map.2 ⟨p, hpp, rfl⟩
  obtain ⟨N, hN, e⟩ := List.mem_map.1 this
  simp only [keyA, Prod.mk.injEq] at e
  rw [← e.1, ← e.2]
  exact hg N hN
theorem NetGood.bounds {N : NetA} (h : NetGood N.ad N.ms) : N.ad.length ≤ 2147483647 ∧ N.ms.length ≤ 2147483647 := by
  have h1 := h.1.len
  have h2 := h.2.1
  omega
set_option maxHeartbeats 1000000 in
theorem implQueryIP_any (B : Option Addr) (m d : Nat) (ns : List NetA) (w : World) (hm : m = ns.length) (hl : ns.length ≤ 2147483647) (hrn : NetsR w B ns) (hg : ∀ N ∈ ns, NetGood N.ad N.ms)
    (A : Option Addr) (n c : Nat) (l : List UInt8) (hn : n = l.length) (hA : A = none → c = 0) (hr : Rd w A (u8s l)) (ha : AddrOk l) (b : Bool) (hb : b = true ↔ Met ns l) :
    Calls Try.prog 17 #[.slice B m d, .slice A n c] w (Ret (.bool b) w) := by
  subst hn
  have hll := ha.len
  have HN := Lib.hid (networks_any B m d ns w hm hl hrn fun N hN => (hg N hN).bounds)
  have HC : Hid (∀ W, Below w.heap.size w W → Calls Try.prog 31 #[.slice A l.length c] W (CopyPost l W)) := fun W hW => copied_any A _ c l W rfl (by omega) hA (hr.below hW)
  have HZ : Hid (∀ (C : Option Addr) (k e : Nat) (ps : List (Nat × NetA)) (D : Option Addr) (f : Nat) (W : World), k = ps.length → Rd W C (ps.map encP) → ps.map (fun p => keyA p.2) = ns.map keyA → (∀ p ∈ ps, NetP W p.1 p.2) → l.length ≤ f → Rd W D (u8s l) →
      Calls Try.prog 29 #[.slice C k e, .slice D l.length f] W (FoundPost b W)) := fun C k e ps D f W h1 h2 h3 h4 h5 h6 =>
    zzQueryIP_any C k e ps W h1 (by have := congrArg List.length h3; simp at this; omega) h2 (isN_keys h3 hg h4) D l.length f l rfl h5 h6 ha b (hb.trans (met_keys h3 l).symm)
  clear hm hl hrn hg hA hr ha hb hll
  go_enter Try.func17, Try.ntmps17
  go_wp2_with fail
  refine HN.out.mono ?_
  rintro e w1 ⟨v, ps, rfl, hown, hkeys, hnets, hb1⟩
  have HO := Lib.hid hown
  have HK := Lib.hid hkeys
  have HS := Lib.hid hnets
  have HB := Lib.hid hb1
  clear hown hkeys hnets hb1 HN
  obtain ⟨C, e, rfl, -, -, hrd, -⟩ := Rd.own HO.out
  have HR := Lib.hid hrd
  clear hrd
  go_wp2_with fail
  refine (HC.out w1 HB.out).mono ?_
  rintro e2 w2 ⟨D, f, rfl, hf, -, -, hrd2, hb2⟩
  have HZ2 := Lib.hid (HZ.out C ps.length e ps D f w2 rfl (HR.out.below hb2) HK.out (fun p hp => (HS.out p hp).below hb2) hf hrd2)
  have HB2 := Lib.hid (HB.out.trans (hb2.mono HB.out.size))
  clear hf hrd2 hb2 HC HZ HR HS HB
  go_wp2_with fail
  refine HZ2.out.mono ?_
  rintro e3 w3 ⟨u, rfl, hb3⟩
  have HB3 := Lib.hid (HB2.out.trans (hb3.mono HB2.out.size))
  clear hb3 HB2 HZ2
  go_wp2
  go_ret
  exact ⟨rfl, HB3.out⟩
end Go.Proofs.Ytgaolfbbfdojjaa
