/-
  FnCheckNothing holds: without constraints nothing is refused; the constraint of nothing is met by each name. For every input; no condition of ours. And its tied card.
-/
import Derived.Test.YtdinnpjplgkffaaDoorE3
import Derived.Test.YtdinnpjplgkffaaDoorTie
import Derived.Test.YtdinnpjplgkffaaDoorCards
import Derived.LaidMore
import Derived.Lay
import Derived.SevenTiedAt
import Derived.Stop.Joined
namespace Go.Proofs.YtdinnpjplgkffaaDoor
open Go.ChangeShapes Go.WideShapes Go.ChangeAt Go.RowKit
open Go.ChangeMaps (open_string shut_string)

/-- The list of nothing alone. -/
def eL : List ByteArray := [{ data := #[] }]
theorem makes_none (pm : Bool) (x : ByteArray) : MakesN [] pm x none := fun A c W _ => (newDNS_nil A c pm W).mono fun e w' h => by
  obtain ⟨rfl, rfl⟩ := h
  exact ⟨_, rfl, .inl ⟨rfl, rfl⟩, Below.refl _ _⟩
theorem makes_all (pm : Bool) (x : ByteArray) (hx : nameOk (bytes x) = true) : MakesN eL pm x (some true) := fun A c W hr => by
  have he : ∃ y ∈ eL, y.size = 0 := ⟨_, List.mem_singleton.2 rfl, rfl⟩
  refine (newDNS_all A _ c eL pm W rfl (by unfold eL; simp) hr he fun y hy => ?_).mono fun e w' h => ?_
  · rw [List.mem_singleton.1 hy]
    exact Nat.zero_le _
  · exact h.ask (fun y hy => by rw [List.mem_singleton.1 hy]; exact .inl rfl) hx ⟨fun _ => ⟨_, List.mem_singleton.2 rfl, .inl rfl⟩, fun _ => rfl⟩
theorem rd_e (W : World) (T : TypeId) : Rd (W.alloc (.cells #[.string { data := #[] }] T)) (some ⟨W.heap.size, 0, none⟩) (strs eL) := Rd.new W #[.string { data := #[] }] T
theorem rd_ee (W : World) (T : TypeId) : Rd ((W.alloc (.cells #[.string { data := #[] }] T)).alloc (.cells #[.string { data := #[] }] T)) (some ⟨W.heap.size, 0, none⟩) (strs eL) ∧ Rd ((W.alloc (.cells #[.string { data := #[] }] T)).alloc (.cells #[.string { data := #[] }] T)) (some ⟨W.heap.size + 1, 0, none⟩) (strs eL) := by
  refine ⟨(rd_e W T).below (Below.one _ _), ?_⟩
  have := rd_e (W.alloc (.cells #[.string { data := #[] }] T)) T
  rw [show (W.alloc (.cells #[.string { data := #[] }] T)).heap.size = W.heap.size + 1 by simp] at this
  exact this
set_option maxRecDepth 100000 in
set_option maxHeartbeats 4000000 in
theorem fnCheckNothing_walk (x : ByteArray) (hx0 : x.size ≤ maxLen) (w : World) :
    Calls Tryd.prog 7 #[.string x] w (Ret (.bool true) w) := by
  unfold maxLen at hx0
  by_cases g2 : 2147483647 < x.size
  · go_enter Tryd.func7, Tryd.ntmps7
    go_wp2
    go_ret
    exact ⟨rfl, Below.refl _ _⟩
  have g2' : x.size ≤ 2147483647 := by omega
  by_cases gb : 1048576 < x.size
  · have HB := Lib.hid (fun W => beyond1 x.size true (by simpa using gb) W)
    clear gb g2
    go_enter Tryd.func7, Tryd.ntmps7
    go_wp2_with (go_at_call 10; refine (HB.out _).mono ?_; rintro e w3 ⟨rfl, rfl⟩)
    go_ret
    exact ⟨rfl, Below.one _ _⟩
  have HB := Lib.hid (fun W => beyond1 x.size false (by simpa using gb) W)
  clear gb g2
  cases hno : nameOk (bytes x)
  · have HN := Lib.hid (fun W => nameOk_any x g2' W)
    rw [hno] at HN
    clear hno
    go_enter Tryd.func7, Tryd.ntmps7
    go_wp2_with fail
    go_at_call 10
    refine (HB.out _).mono ?_
    rintro e wz ⟨rfl, rfl⟩
    go_wp2_with ((with_reducible refine (HN.out _).mono ?_); rintro e w5 ⟨rfl, hb5⟩)
    go_ret
    exact ⟨rfl, (Below.one _ _).trans (hb5.mono (Below.one _ _).size)⟩
  have HN := Lib.hid (fun W => nameOk_any x g2' W)
  have le : eL.length ≤ 2147483647 := by unfold eL; simp
  have l0 : ([] : List ByteArray).length ≤ 2147483647 := Nat.zero_le _
  have H1 : Hid (∀ W, Calls Tryd.prog 24 #[.slice none 0 0, .slice none 0 0, .string x] W (Ret (.int .i64 0) W)) := fun W =>
    implCheckDNS_any none none 0 0 0 0 [] [] x none none W hno rfl rfl l0 l0 (fun _ => rfl) (fun _ => rfl) (Rd.nil _ _) (Rd.nil _ _) (makes_none true x) (makes_none false x) false rfl
  have H2 : Hid (∀ b W, Rd W (some ⟨b, 0, none⟩) (strs eL) → Calls Tryd.prog 24 #[.slice none 0 0, .slice (some ⟨b, 0, none⟩) 1 1, .string x] W (Ret (.int .i64 1) W)) := fun b W h =>
    implCheckDNS_any none (some ⟨b, 0, none⟩) 0 0 1 1 [] eL x none (some true) W hno rfl rfl l0 le (fun _ => rfl) (fun e => (by cases e)) (Rd.nil _ _) h (makes_none true x) (makes_all false x hno) true rfl
  have H3 : Hid (∀ b W, Rd W (some ⟨b, 0, none⟩) (strs eL) → Calls Tryd.prog 24 #[.slice (some ⟨b, 0, none⟩) 1 1, .slice none 0 0, .string x] W (Ret (.int .i64 0) W)) := fun b W h =>
    implCheckDNS_any (some ⟨b, 0, none⟩) none 1 1 0 0 eL [] x (some true) none W hno rfl rfl le l0 (fun e => (by cases e)) (fun _ => rfl) h (Rd.nil _ _) (makes_all true x hno) (makes_none false x) false rfl
  have H4 : Hid (∀ b d W, Rd W (some ⟨b, 0, none⟩) (strs eL) ∧ Rd W (some ⟨d, 0, none⟩) (strs eL) → Calls Tryd.prog 24 #[.slice (some ⟨b, 0, none⟩) 1 1, .slice (some ⟨d, 0, none⟩) 1 1, .string x] W (Ret (.int .i64 1) W)) := fun b d W h =>
    implCheckDNS_any (some ⟨b, 0, none⟩) (some ⟨d, 0, none⟩) 1 1 1 1 eL eL x (some true) (some true) W hno rfl rfl le le (fun e => (by cases e)) (fun e => (by cases e)) h.1 h.2 (makes_all true x hno) (makes_all false x hno) true rfl
  rw [hno] at HN
  clear hno le l0
  go_enter Tryd.func7, Tryd.ntmps7
  go_wp2_with fail
  go_at_call 10
  refine (HB.out _).mono ?_
  rintro e wz ⟨rfl, rfl⟩
  have HBz : Hid (Below w.heap.size w (w.alloc (.cells #[.int .i64 (x.size : Int)] 3))) := Below.one _ _
  go_wp2_with fail
  refine (HN.out _).mono ?_
  rintro e w1 ⟨rfl, hb1⟩
  have HB1 := Lib.hid (HBz.out.trans (hb1.mono HBz.out.size))
  clear hb1 HBz
  go_wp2_with fail
  refine (H1.out _).mono ?_
  rintro e w2 ⟨rfl, hb2⟩
  have HB2 := Lib.hid (HB1.out.trans (hb2.mono HB1.out.size))
  clear hb2 HB1
  go_wp2_with fail
  refine (H2.out _ _ (rd_e _ _)).mono ?_
  rintro e w3 ⟨rfl, hb3⟩
  have HB3 := Lib.hid ((HB2.out.trans ((Below.one _ _).mono HB2.out.size)).trans (hb3.mono (HB2.out.trans ((Below.one _ _).mono HB2.out.size)).size))
  clear hb3 HB2
  go_wp2_with fail
  refine (H3.out _ _ (rd_e _ _)).mono ?_
  rintro e w4 ⟨rfl, hb4⟩
  have HB4 := Lib.hid ((HB3.out.trans ((Below.one _ _).mono HB3.out.size)).trans (hb4.mono (HB3.out.trans ((Below.one _ _).mono HB3.out.size)).size))
  clear hb4 HB3
  go_wp2_with fail
  refine (H4.out _ _ _ (rd_ee _ _)).mono ?_
  rintro e w5 ⟨rfl, hb5⟩
  have HT := Lib.hid (HB4.out.trans ((two_cells w4 #[.string { data := #[] }] 9 9 (.string { data := #[] })).2.2.mono HB4.out.size))
  have HB5 := Lib.hid (HT.out.trans (hb5.mono HT.out.size))
  clear hb5 HB4 HT
  go_wp2
  go_ret
  exact ⟨rfl, HB5.out⟩

set_option maxRecDepth 100000 in
set_option linter.unusedVariables false in
theorem fnCheckNothing_lifted (os : Os) (started : os.Started) (H : Type) (enc : TypeId × Value → H) :
    ReturnsInHanded {} Tryd.checked os 7 .any (fun w args => (Rows.fnCheckNothingSpec.pre enc Tryd.prog Tryd.f7 Rows.fnCheckNothingRow.domain false w args ∧ laidMetH Tryd.prog Rows.fnCheckNothingRow.laid w) ∧ sizedMet enc Tryd.prog Tryd.f7 (OpenSpec.ofChange Rows.fnCheckNothingSpec) false w args) (Rows.fnCheckNothingSpec.post enc Tryd.prog Tryd.f7 false true false false) := by
  refine returnsInHanded_of_change_and (C := Tryd.checked) (X := fun w _ => laidMetH Tryd.prog Rows.fnCheckNothingRow.laid w) (fun _ _ _ hh h => h.of_heap hh) own started (by kernel_rfl) Tryd.func7
    (ChangeSpec.witness_shaped (enc := enc) (C := Tryd.checked) (os := os) (X := fun w _ => laidMetH Tryd.prog Rows.fnCheckNothingRow.laid w) false (World.laidAll Tryd.prog os Rows.fnCheckNothingRow.laid) #[.string ByteArray.empty] 8 (World.laidAll_os _ _ _)
      (World.shaped_of_ZipB (by kernel_rfl) (by kernel_rfl)) (by kernel_rfl) (by kernel_rfl) (by kernel_rfl)
      (by rw [MakeChecks.laidMetH_plain _ _ _ (by kernel_rfl)]; exact laidMet_laidAll _ (by kernel_rfl) (by kernel_rfl))) ?_
  intro W base args ds gs before hval0 hW hcnd _ hL _
  have hval : ∀ (j : Nat) t v, Tryd.f7.params[j]? = some t → args[j]? = some v → Value.okWide Tryd.prog W .any base t v := hval0
  have hW' := hW
  obtain ⟨p, q, hA0, hV, rfl, hfz, hnd⟩ := hW
  have hA : DataW.TrodAll enc Tryd.prog W 0 (fun _ => true) true Tryd.f7.params.toList args.toList ds p := hA0
  rw [Tryd.params7] at hA hval
  obtain ⟨v0, vs0, d0, ds0, p0, q0, hargs, rfl, rfl, h0, r0⟩ := trodAll_cons hA
  obtain ⟨rfl, rfl, rfl⟩ := trodAll_nil r0
  obtain rfl : args = #[v0] := by cases args; simp_all
  obtain ⟨rfl, rfl⟩ := trodVars_none hV
  obtain ⟨a0, rfl, rfl, rfl, w0⟩ := open_string Tryd.underlying9 (hval 0 9 v0 rfl rfl) h0
  clear hA0 hval0
  refine (fnCheckNothing_walk a0 w0 W).mono fun e W' ⟨he, bel⟩ => ?_
  subst he
  exact ⟨_, rfl, _, _, _, [], _, [], hW', trodAll_mk1 (shut_bool Tryd.underlying4 _), (trodAll_cons_mk (shut_string Tryd.underlying9 w0) trodAll_mk0), rfl, bel.frame _, fun h => by cases h⟩
theorem fnCheckNothing_facts : joinedFacts Tryd.prog 7 Tryd.f7 Rows.fnCheckNothingSpec Rows.fnCheckNothingRow = true :=
  facts_of rfl head_enter head_lifts head_make rfl rfl (by kernel_rfl) (by kernel_rfl) (by kernel_rfl) (by kernel_rfl) (by kernel_rfl)
set_option maxRecDepth 100000 in
theorem fnCheckNothing_row : Rows.FnCheckNothingSaid :=
  OpenClaim.holds_of_wide 7 Tryd.f7 rfl rfl rfl rfl rfl rfl rfl ⟨rfl, rfl, rfl, rfl, rfl⟩ rfl rfl rfl rfl rfl (by kernel_rfl) Tryd.func7 fnCheckNothing_facts
    (of_decide_eq_true (by kernel_rfl)) (by unfold Func.isWrapper; first | (rw [if_pos (by decide +kernel)]; kernel_rfl) | (rw [if_neg (by decide +kernel)]; exact ⟨rfl, rfl⟩))
    (fun os started H enc _ => fnCheckNothing_lifted os started H enc)
set_option maxRecDepth 100000 in
theorem fnCheckNothing_holds : Rows.FnCheckNothingCardSaid :=
  Claim7.holds_tied_plain_at .later [] [.data, .pinned, .pinned] true (true, "47dc8390ac227de7a865ba6f089e7475486b30b73b4649b8ec8f28900be40170") false fnCheckNothing_row (fun _ h => by cases h) (by kernel_rfl) (fun _ h => by cases h) fnCheckNothing_row_tie rfl ⟨rfl, rfl⟩ (by kernel_rfl) rfl
    (fun f fn hf hfn => by
      obtain rfl : f = 7 := Option.some.inj ((show Tryd.prog.funcNamed "loop.example/pub-g03129/laws.FnCheckNothing" = some 7 by kernel_rfl).symm.trans hf) |>.symm
      obtain rfl : fn = Tryd.f7 := (Option.some.inj (Tryd.func7.symm.trans hfn)).symm
      exact ⟨by kernel_rfl, fun j t ht => by
        rw [Tryd.params7] at ht
        have hm : t ∈ [9] := by simpa using Array.mem_of_getElem? ht
        have hall : ([9].all fun u => !Tryd.prog.wantsStandIn u) = true := by kernel_rfl
        exact (show Tryd.prog.wantsStandIn t = false by simpa using List.all_eq_true.1 hall t hm)⟩)
    (by kernel_rfl)
end Go.Proofs.YtdinnpjplgkffaaDoor
