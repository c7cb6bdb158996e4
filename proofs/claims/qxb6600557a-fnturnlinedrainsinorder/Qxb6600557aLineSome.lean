/-
  THE WALK of FnTurnLineDrainsInOrder: heldKeys is not nil.
-/
import Derived.Test.Qxb6600557aLineParts
namespace Go.Proofs.Qxb6600557a.Line
open Go.RowKit Go.Maps

set_option maxRecDepth 100000 in
set_option maxHeartbeats 4000000 in
theorem drain_some (a0 : Option Addr) (cap0 : Nat) (S0 : List ByteArray) (f : Nat) (x2 : Addr) (cap2 : Nat) (S2 : List ByteArray) (w : World) (h0 : Strs w a0 S0.length cap0 S0) (h2 : Strs w (some x2) S2.length cap2 S2)
    (hl0 : S0.length ≤ 65536) (hl2 : S2.length ≤ 65536) (hf : f ≤ S0.length) :
    Calls Try.prog 9 #[.slice a0 S0.length cap0, .int .i64 f, .slice (some x2) S2.length cap2] w fun e w' => e = .returned (.bool true) ∧ Below w.heap.size w w' := by
  have hmm := make_map
  have M0 : Hid (∀ s ∈ S0, s.size ≤ maxLen) := h0.2.2.1
  have M2 : Hid (∀ s ∈ S2, s.size ≤ maxLen) := h2.2.2.1
  go_enter Try.func9, Try.ntmps9
  go_wp2_with fail
  refine (zz_any _ _ _ S0 _ _ _ _ S2 _ h0 h2 (by unfold maxLen; omega) (by unfold maxLen; omega)).mono ?_; rintro e w' ⟨r, rfl, hw', hsm⟩; have hw := hw'.symm; clear hw'; subst hw
  cases r
  · clear hsm
    go_wp2_with fail
    go_ret
    exact ⟨rfl, Below.refl _ _⟩
  · have hs0 : Hid (Small S0) := (hsm rfl).1
    have hs2 : Hid (Small S2) := (hsm rfl).2
    clear hsm
    go_wp2_with fail
    refine (sb_any _ _ _ S0 _ h0 hl0 hs0.out).mono ?_; rintro e w' ⟨n1, rfl, n1a, n1b, hw'⟩; have hw := hw'.symm; clear hw'; subst hw
    go_wp2_with fail
    refine (sb_any _ _ _ S2 _ h2 hl2 hs2.out).mono ?_; rintro e w' ⟨n2, rfl, n2a, n2b, hw'⟩; have hw := hw'.symm; clear hw'; subst hw
    by_cases hsum : n1 + n2 ≤ 1048576
    · go_wp2_with fail
      refine (clone_any _ _ _ S0 _ h0 hl0).mono ?_; rintro e w1 ⟨ao0, rfl, r0, i0, b1⟩
      clear i0
      go_wp2_with fail
      refine (clone_any _ _ _ S2 _ (h2.below b1) hl2).mono ?_; rintro e w2 ⟨ao2, rfl, r2, i2, b2⟩
      have r0' := r0.keep (w' := w2) (fun g cs hg => by rw [b2.block g (lt_of_block hg)]; exact hg)
      go_wp2_with fail
      refine (clone_any _ _ _ S0 _ (r0'.strs M0.out) hl0).mono ?_; rintro e w3 ⟨ao3, rfl, r3, i3, b3⟩
      clear i3 r0
      have hBase : Base w w3 ao0 ao2 ao3 S0 S2 := ⟨r0'.keep (fun g cs hg => by rw [b3.block g (lt_of_block hg)]; exact hg), (r2.mono b1.size).keep (fun g cs hg => by rw [b3.block g (lt_of_block hg)]; exact hg), r3.mono (Nat.le_trans b1.size b2.size), (b1.trans (b2.mono b1.size)).trans (b3.mono (Nat.le_trans b1.size b2.size))⟩
      clear r0' r2 r3 b1 b2 b3 h0 h2
      obtain ⟨x2', hx2'⟩ : ∃ x, ao2 = some x := by
        cases ao2 with
        | none => exact absurd (i2.1 rfl) (by simp)
        | some x => exact ⟨x, rfl⟩
      subst hx2'
      clear i2
      have hnn := fun (w : World) => run_neq_slice_nil_any (P := Try.prog) w 31 9 (some x2') S2.length S2.length 0 0 Try.underlying31
      go_wp2_with fail
      have hO : (w3.alloc (.map #[] 0)).ownsMap Try.prog 9 (plainElem Try.prog 4) w3.heap.size 0 (putAll (S2.take 0)) := World.ownsMap_made _ _ _ _
      have hBm : Hid (w.heap.size ≤ w3.heap.size) := hBase.2.2.2.size
      have hB1 := hBase.alloc (.map #[] 0)
      clear hBase
      go_loopw [9] (fun t wr => ∃ k : Nat, k ≤ S2.length ∧ t = .int .i64 k ∧ wr.ownsMap Try.prog 9 (plainElem Try.prog 4) w3.heap.size k (putAll (S2.take k)) ∧ Base w wr ao0 (some x2') ao3 S0 S2) (fun t _ => S2.length - (intOf t).toNat)
      case atStart => exact ⟨0, Nat.zero_le _, rfl, hO, hB1⟩
      case round =>
        clear hO hB1
        obtain ⟨k, hk, rfl, hO, hBase⟩ := hrel
        by_cases hlt : k < S2.length
        · obtain ⟨g, hg, hc⟩ := hBase.2.1.cell hlt
          cases hg
          have hP : Hid (putAll (S2.take (k + 1)) = (putAll (S2.take k)).put (kl (S2.getD k ByteArray.empty)) (.lit (.bool true))) := putAll_snoc hlt
          have hsz : (S2.getD k ByteArray.empty).size ≤ maxLen := M2.out _ (getD_mem hlt)
          obtain ⟨s, hs⟩ : ∃ s, s = S2.getD k ByteArray.empty := ⟨_, rfl⟩
          rw [← hs] at hP hsz hc
          clear hs
          go_wp2_with (at_mapUpdate; refine wpList_mapUpdate_own _ rfl _ _ _ 35 rfl 9 4 law Try.underlying35 _ w3.heap.size k _ rfl hO (by unfold maxLen; omega) _ _ (kl s) rfl rfl (key_of s hsz) _ [] (plainElem_bool Try.underlying4 true) ?_; intro w4 hO4 hg4)
          go_roundw
          case rel => exact ⟨k + 1, by omega, by go_num, by rw [hP.out]; exact hO4, hBase.wrote hO hBm.out hg4⟩
          case measure => simp [intOf]; omega
        · have hH : Held wr (some w3.heap.size) S2.length (putAll S2) := .inr ⟨_, rfl, by rw [putAll_all (S := S2) (k := k) (by omega)] at hO; exact hO.mono (by omega)⟩
          have hBm2 : Hid (∀ b, some w3.heap.size = some b → w.heap.size ≤ b) := fun b hb => by cases hb; exact hBm.out
          have hlt3 : w3.heap.size < wr.heap.size := hO.lt
          have hmlt : Hid (∀ b, some w3.heap.size = some b → b < wr.heap.size) := fun b hb => by cases hb; exact hlt3
          clear hO hk hBm hlt3
          obtain ⟨bw, hbw⟩ : ∃ bw, wr.heap.size = bw := ⟨_, rfl⟩
          have hO : (wr.alloc (.map #[] 0)).ownsMap Try.prog 9 (plainElem Try.prog 4) bw 0 (putAll (S2.take 0)) := by rw [← hbw]; exact World.ownsMap_made _ _ _ _
          have hne : Hid (some bw ≠ (some w3.heap.size)) := fun e => by have := hmlt.out _ e.symm; omega
          have hBw : Hid (w.heap.size ≤ bw) := by rw [← hbw]; exact hBase.2.2.2.size
          have hB1 := hBase.alloc (.map #[] 0)
          have hH1 := hH.alloc (.map #[] 0)
          clear hBase hH hmlt
          go_wp2_with fail
          clear hbw hnn
          go_loopw [11] (fun t wr => ∃ k : Nat, k ≤ S2.length ∧ t = .int .i64 k ∧ wr.ownsMap Try.prog 9 (plainElem Try.prog 4) bw k (putAll (S2.take k)) ∧ Base w wr ao0 (some x2') ao3 S0 S2 ∧ Held wr (some w3.heap.size) S2.length (putAll S2)) (fun t _ => S2.length - (intOf t).toNat)
          case atStart => exact ⟨0, Nat.zero_le _, rfl, hO, hB1, hH1⟩
          case round =>
            clear hO hB1 hH1
            obtain ⟨k, hk, rfl, hO, hBase, hH⟩ := hrel
            by_cases hlt : k < S2.length
            · obtain ⟨g, hg, hc⟩ := hBase.2.1.cell hlt
              cases hg
              have hP : Hid (putAll (S2.take (k + 1)) = (putAll (S2.take k)).put (kl (S2.getD k ByteArray.empty)) (.lit (.bool true))) := putAll_snoc hlt
              have hsz : (S2.getD k ByteArray.empty).size ≤ maxLen := M2.out _ (getD_mem hlt)
              obtain ⟨s, hs⟩ : ∃ s, s = S2.getD k ByteArray.empty := ⟨_, rfl⟩
              rw [← hs] at hP hsz hc
              clear hs
              go_wp2_with (at_mapUpdate; refine wpList_mapUpdate_own _ rfl _ _ _ 35 rfl 9 4 law Try.underlying35 _ bw k _ rfl hO (by unfold maxLen; omega) _ _ (kl s) rfl rfl (key_of s hsz) _ [] (plainElem_bool Try.underlying4 true) ?_; intro w4 hO4 hg4)
              go_roundw
              case rel => exact ⟨k + 1, by omega, by go_num, by rw [hP.out]; exact hO4, hBase.wrote hO hBw.out hg4, hH.wrote hg4 hne.out⟩
              case measure => simp [intOf]; omega
            · rw [putAll_all (S := S2) (k := k) (by omega)] at hO
              have hO2 := hO.mono (show k ≤ S2.length by omega)
              clear hO
              go_wp2_with fail
              go_loopw [12] (fun t wr => ∃ k : Nat, f ≤ k ∧ k ≤ S0.length ∧ t = .int .i64 k ∧ wr.ownsMap Try.prog 9 (plainElem Try.prog 4) bw S2.length (delAll (putAll S2) ((S0.drop f).take (k - f))) ∧ Base w wr ao0 (some x2') ao3 S0 S2 ∧ Held wr (some w3.heap.size) S2.length (putAll S2)) (fun t _ => S0.length - (intOf t).toNat)
              case atStart => exact ⟨f, Nat.le_refl _, hf, rfl, by simpa [delAll] using hO2, hBase, hH⟩
              case round =>
                clear hO2 hBase hH hk hlt
                obtain ⟨k, hfk, hk, rfl, hO, hBase, hH⟩ := hrel
                by_cases hlt : k < S0.length
                · obtain ⟨g, hg, hc⟩ := hBase.1.cell hlt
                  subst hg
                  have hP : Hid (delAll (putAll S2) ((S0.drop f).take (k + 1 - f)) = (delAll (putAll S2) ((S0.drop f).take (k - f))).del (kl (S0.getD k ByteArray.empty))) := delAll_at hfk hlt
                  have hsz : (S0.getD k ByteArray.empty).size ≤ maxLen := M0.out _ (getD_mem hlt)
                  obtain ⟨s, hs⟩ : ∃ s, s = S0.getD k ByteArray.empty := ⟨_, rfl⟩
                  rw [← hs] at hP hsz hc
                  clear hs
                  go_wp2_with (at_delete; refine wpList_delete_own _ rfl _ _ 35 9 rfl 4 law Try.underlying35 _ bw S2.length _ rfl hO _ _ rfl (key_of s hsz) ?_; intro w4 hO4 ht4)
                  go_roundw
                  case rel => exact ⟨k + 1, by omega, by omega, by go_num, by rw [hP.out]; exact hO4, hBase.wrote hO hBw.out ht4.grown, hH.wrote ht4.grown hne.out⟩
                  case measure => simp [intOf]; omega
                · have hO2 : wr.ownsMap Try.prog 9 (plainElem Try.prog 4) bw S2.length (delAll (putAll S2) (S0.drop f)) := by rw [delAll_all (f := f) (k := k - f) (by omega)] at hO; exact hO
                  clear hO
                  have hst := State.start hBase hH hO2 hne.out hBm2.out
                  obtain ⟨T, hT⟩ : ∃ T, wr.heap.size = T := ⟨_, rfl⟩
                  clear hO2 hBase hH
                  go_wp2_with fail
                  refine (new_any _ _ _ _ _ _).mono ?_; rintro e w5 ⟨rfl, hw5⟩
                  subst hw5
                  rw [hT] at hst ⊢
                  clear hT
                  go_wp2_with fail
                  go_loopw [15] (fun t wr => ∃ k : Nat, f + k ≤ S0.length ∧ t = .int .i64 k ∧ State w wr ao0 (some x2') ao3 S0 S2 f T bw (some w3.heap.size) k) (fun t _ => S0.length - (intOf t).toNat)
                  case atStart => exact ⟨0, by omega, rfl, hst⟩
                  case round =>
                    clear hst hfk hk hlt
                    obtain ⟨k, hk, rfl, hst⟩ := hrel
                    by_cases hlt : f + k < S0.length
                    · obtain ⟨g3, hg3, hc3⟩ := hst.1.2.2.1.cell hlt
                      obtain ⟨g0, hg0, hc0⟩ := hst.1.1.cell hlt
                      have hT := hst.2.1
                      rw [lenAt_mid hlt, firstAt_mid hlt] at hT
                      have hsz : (S0.getD (f + k) ByteArray.empty).size ≤ maxLen := M0.out _ (getD_mem hlt)
                      subst hg3
                      obtain ⟨s, hs⟩ : ∃ s, s = S0.getD (f + k) ByteArray.empty := ⟨_, rfl⟩
                      have HS : Hid (s = S0.getD (f + k) ByteArray.empty) := hs
                      rw [← hs] at hsz hc3
                      clear hs hc0
                      subst hg0
                      by_cases hlast : f + k + 1 < S0.length
                      · have hcall := zztake_more wr T g3 S0.length S0.length (some w3.heap.size) S2.length _ (f + k) s hlast hl0 hT hc3 hst.2.2.1 hsz
                        have HCALL : Hid (Calls Try.prog 24 #[.pointer (some ⟨T, 0, none⟩)] wr fun e w' => TakePost wr T (some w3.heap.size) S2.length (delAll (putAll S2) ((S0.drop f).take k)) (some ⟨g3, 0, none⟩) S0.length s S0.length ((f + k + 1 : Nat) : Int) e w') := hcall
                        have hl1 : Hid (S0.length = lenAt S0.length f (k + 1)) := (show S0.length = lenAt S0.length f (k + 1) from (lenAt_mid (by omega)).symm)
                        have hf1 : Hid (f + k + 1 = firstAt S0.length f (k + 1)) := (show f + (k + 1) = firstAt S0.length f (k + 1) from (firstAt_mid (by omega)).symm)
                        clear hcall hT hc3
                        go_wp2_with fail
                        refine HCALL.out.mono ?_; intro e w6 hp
                        have hst6 := hst.took hlt HS.out rfl hl1.out hf1.out rfl hp
                        obtain ⟨rfl, _⟩ := hp
                        obtain ⟨g0', hg0', hc0⟩ := hst6.1.1.cell hlt
                        cases hg0'
                        rw [← HS.out] at hc0
                        clear hst
                        go_wp2_with fail
                        go_roundw
                        case rel => exact ⟨k + 1, by omega, by go_num, hst6⟩
                        case measure => simp [intOf]; omega
                      · have hlast' : f + k + 1 = S0.length := by omega
                        have hcall := zztake_last wr T g3 S0.length S0.length (some w3.heap.size) S2.length _ (f + k) s hlast' hl0 (Nat.le_refl _) hl0 hT hc3 hst.2.2.1 hsz
                        have HCALL : Hid (Calls Try.prog 24 #[.pointer (some ⟨T, 0, none⟩)] wr fun e w' => TakePost wr T (some w3.heap.size) S2.length (delAll (putAll S2) ((S0.drop f).take k)) (some ⟨g3, 0, none⟩) S0.length s 0 0 e w') := hcall
                        have hl1 : Hid (0 = lenAt S0.length f (k + 1)) := (show 0 = lenAt S0.length f (k + 1) from (lenAt_end (by omega) (by omega)).symm)
                        have hf1 : Hid (0 = firstAt S0.length f (k + 1)) := (show 0 = firstAt S0.length f (k + 1) by rw [end_same (by omega)]; exact hl1.out)
                        clear hcall hT hc3 hlast'
                        go_wp2_with fail
                        refine HCALL.out.mono ?_; intro e w6 hp
                        have hst6 := hst.took hlt HS.out rfl hl1.out hf1.out rfl hp
                        obtain ⟨rfl, _⟩ := hp
                        obtain ⟨g0', hg0', hc0⟩ := hst6.1.1.cell hlt
                        cases hg0'
                        rw [← HS.out] at hc0
                        clear hst
                        go_wp2_with fail
                        go_roundw
                        case rel => exact ⟨k + 1, by omega, by go_num, hst6⟩
                        case measure => simp [intOf]; omega
                    · have hle : S0.length ≤ f + k := by omega
                      have HN : Hid (f + k = S0.length) := (show f + k = S0.length by omega)
                      clear hlt
                      go_wp2_with fail
                      go_loopw [18] (fun t wr => ∃ j : Nat, j ≤ 2 ∧ t = .int .i64 j ∧ State w wr ao0 (some x2') ao3 S0 S2 f T bw (some w3.heap.size) k) (fun t _ => 2 - (intOf t).toNat)
                      case atStart => exact ⟨0, by omega, rfl, hst⟩
                      case round =>
                        clear hst
                        obtain ⟨j, hj, rfl, hst⟩ := hrel
                        by_cases hlt : j < 2
                        · have hT := hst.2.1
                          rw [end_same HN.out] at hT
                          have HT := (show Hid (wr.heap[T]? = some (lineAt (.slice ao3 (lenAt S0.length f k) S0.length) (lenAt S0.length f k) (some w3.heap.size))) from hT)
                          clear hT
                          go_wp2_with fail
                          refine (zztake_none wr T ao3 _ _ _ HT.out).mono ?_; rintro e w6 ⟨rfl, nq, hw6⟩
                          rw [hw6]
                          go_wp2_with fail
                          go_roundw
                          case rel => exact ⟨j + 1, by omega, by go_num, hst.drewN _⟩
                          case measure => simp [intOf]; omega
                        · clear hj
                          have hT := hst.2.1
                          have hH := hst.2.2.1
                          rw [delAll_all (f := f) (k := k) (by omega)] at hH
                          have hlen := hst.2.2.2.1.len Try.underlying35
                          have hH' := (show Hid (Held wr (some w3.heap.size) S2.length (delAll (putAll S2) (S0.drop f))) from hH)
                          clear hH
                          by_cases hk0 : 0 < k
                          · rw [end_same HN.out, lenAt_end HN.out hk0] at hT
                            have HT := (show Hid (wr.heap[T]? = some (lineAt (.slice ao3 0 S0.length) (0 : Int) (some w3.heap.size))) from hT)
                            clear hT
                            go_wp2_with fail
                            refine (first_any wr T _ _ _ HT.out).mono ?_; rintro e w' ⟨rfl, hw'⟩; have hw := hw'.symm; clear hw'; subst hw
                            go_wp2_with fail
                            refine (queues_any wr T _ _ _ _ _ HT.out).mono ?_; rintro e w' ⟨rfl, hw'⟩; have hw := hw'.symm; clear hw'; subst hw
                            go_wp2_with fail
                            refine (heldLen_any wr T _ _ _ _ _ HT.out hH'.out).mono ?_; rintro e w' ⟨rfl, hw'⟩; have hw := hw'.symm; clear hw'; subst hw
                            go_wp2_with fail
                            clear hlen
                            go_loopw [21] (fun t wr => ∃ j : Nat, j ≤ S2.length ∧ t = .int .i64 j ∧ State w wr ao0 (some x2') ao3 S0 S2 f T bw (some w3.heap.size) k) (fun t _ => S2.length - (intOf t).toNat)
                            case atStart => exact ⟨0, Nat.zero_le _, rfl, hst⟩
                            case round =>
                              clear hst HT hH'
                              obtain ⟨j, hj, rfl, hst⟩ := hrel
                              by_cases hlt : j < S2.length
                              · obtain ⟨g, hg, hc⟩ := hst.1.2.1.cell hlt
                                cases hg
                                have hsz : (S2.getD j ByteArray.empty).size ≤ maxLen := M2.out _ (getD_mem hlt)
                                obtain ⟨s, hs⟩ : ∃ s, s = S2.getD j ByteArray.empty := ⟨_, rfl⟩
                                rw [← hs] at hsz hc
                                clear hs
                                have hH := hst.2.2.1
                                rw [delAll_all (f := f) (k := k) (by omega)] at hH
                                have hlook := fun nq => own_look (w := wr.drewN nq) hst.2.2.2.1 s hsz
                                have hT := (show Hid (wr.heap[T]? = some (lineAt (.slice ao3 (lenAt S0.length f k) S0.length) (firstAt S0.length f k) (some w3.heap.size))) from hst.2.1)
                                go_wp2_with fail
                                go_quiet ((go_at_call 28; exact Calls.quiet_of_same (held_any _ T _ _ _ S2.length _ s hsz hT.out (hH.drewN _))))
                                go_wp2_with fail
                                go_roundw
                                case rel => exact ⟨j + 1, by omega, by go_num, hst.drewN _⟩
                                case measure => simp [intOf]; omega
                              · go_wp2_with fail
                                go_ret
                                exact ⟨rfl, hst.1.2.2.2⟩
                          · have hk00 : k = 0 := by omega
                            rw [hk00, lenAt_zero, firstAt_zero] at hT
                            have HT := (show Hid (wr.heap[T]? = some (lineAt (.slice ao3 S0.length S0.length) (f : Int) (some w3.heap.size))) from hT)
                            clear hT hk00
                            go_wp2_with fail
                            refine (first_any wr T _ _ _ HT.out).mono ?_; rintro e w' ⟨rfl, hw'⟩; have hw := hw'.symm; clear hw'; subst hw
                            go_wp2_with fail
                            refine (queues_any wr T _ _ _ _ _ HT.out).mono ?_; rintro e w' ⟨rfl, hw'⟩; have hw := hw'.symm; clear hw'; subst hw
                            go_wp2_with fail
                            refine (heldLen_any wr T _ _ _ _ _ HT.out hH'.out).mono ?_; rintro e w' ⟨rfl, hw'⟩; have hw := hw'.symm; clear hw'; subst hw
                            go_wp2_with fail
                            clear hlen
                            go_loopw [21] (fun t wr => ∃ j : Nat, j ≤ S2.length ∧ t = .int .i64 j ∧ State w wr ao0 (some x2') ao3 S0 S2 f T bw (some w3.heap.size) k) (fun t _ => S2.length - (intOf t).toNat)
                            case atStart => exact ⟨0, Nat.zero_le _, rfl, hst⟩
                            case round =>
                              clear hst HT hH'
                              obtain ⟨j, hj, rfl, hst⟩ := hrel
                              by_cases hlt : j < S2.length
                              · obtain ⟨g, hg, hc⟩ := hst.1.2.1.cell hlt
                                cases hg
                                have hsz : (S2.getD j ByteArray.empty).size ≤ maxLen := M2.out _ (getD_mem hlt)
                                obtain ⟨s, hs⟩ : ∃ s, s = S2.getD j ByteArray.empty := ⟨_, rfl⟩
                                rw [← hs] at hsz hc
                                clear hs
                                have hH := hst.2.2.1
                                rw [delAll_all (f := f) (k := k) (by omega)] at hH
                                have hlook := fun nq => own_look (w := wr.drewN nq) hst.2.2.2.1 s hsz
                                have hT := (show Hid (wr.heap[T]? = some (lineAt (.slice ao3 (lenAt S0.length f k) S0.length) (firstAt S0.length f k) (some w3.heap.size))) from hst.2.1)
                                go_wp2_with fail
                                go_quiet ((go_at_call 28; exact Calls.quiet_of_same (held_any _ T _ _ _ S2.length _ s hsz hT.out (hH.drewN _))))
                                go_wp2_with fail
                                go_roundw
                                case rel => exact ⟨j + 1, by omega, by go_num, hst.drewN _⟩
                                case measure => simp [intOf]; omega
                              · go_wp2_with fail
                                go_ret
                                exact ⟨rfl, hst.1.2.2.2⟩
    · go_wp2_with fail
      go_ret
      exact ⟨rfl, Below.refl _ _⟩
end Go.Proofs.Qxb6600557a.Line
