/-
  THE WALK of FnQuotedEndFindsEncodedEnd.
-/
import Derived.Test.Qxb6600557aEncParts
import Derived.OpenShut
namespace Go.Proofs.Qxb6600557a.Enc
open Go.RowKit

set_option maxRecDepth 100000 in
set_option maxHeartbeats 2000000 in
theorem walk_t (p c u : ByteArray) (q : UInt8) (bq : Bool) (w : World) (hb : p.size + c.size + u.size ≤ 1048576) (hq : ((q.toNat : Int) == 92) = false)
    (hu : ∀ h : 0 < u.size, (((u[0]'h).toNat : Int) == (q.toNat : Int)) = false) :
    Calls Try.prog 4 #[.string p, .string c, .string u, .int .u8 q.toNat, .bool true, .bool bq] w fun e w' => e = .returned (.bool true) ∧ Below w.heap.size w w' := by
  obtain ⟨i0, hi, hz0, hz1, hz2⟩ := info_parts info5
  have HU : Hid (∀ d, u.data.toList[0]? = some d → d ≠ q) := head_ne u q hu
  have HQ : q ≠ 92 := fun e => slash_ne q hq ⟨rfl, e⟩
  by_cases hu0 : 0 < u.size
  · have hu1 := hu hu0
    clear hu
    go_enter Try.func4, Try.ntmps4
    go_wp2_with (first | (go_at_call 13; refine (g13_yes _ _ _ _ _ _ _ hb).mono ?_; rintro e w' ⟨rfl, hw'⟩; have hw := hw'.symm; clear hw'; subst hw) | (at_make; refine wpList_make_own _ rfl _ _ 25 rfl w.heap.size 5 i0 (.int .u8 0) 1 Try.underlying25 hi hz0 hz1 .i64 .i64 _ (p.size + 2 * c.size + 2 + u.size) rfl rfl (by omega) (by rw [hz2]; omega) (by simp [maxLen]; omega) (Nat.le_refl _) ?_; intro w1 hown1 hgrow1))
    have H1 : Has w w1 (.slice (some ⟨w.heap.size, 0, none⟩) 0 (p.size + 2 * c.size + 2 + u.size)) [] := ⟨hown1, (Below.refl _ _).grown hgrow1 (Nat.le_refl _) (fun j hj => by cases hj)⟩
    clear hown1 hgrow1 hi hz0 hz1 hz2
    go_loopw [13, 14] (fun v i wr => ∃ k : Nat, k ≤ p.size ∧ i = .int .i64 k ∧ Has w wr v (p.data.toList.take k)) (fun _ i _ => p.size - (intOf i).toNat)
    case atStart => exact ⟨0, Nat.zero_le _, rfl, H1⟩
    case round =>
      clear H1
      obtain ⟨k, hk, rfl, hh⟩ := hrel
      have htl := take_len p k hk
      by_cases hlt : k < p.size
      · have hts := take_snoc p k hlt
        have HTS : Hid (p.data.toList.take (k + 1) = p.data.toList.take k ++ [p[k]]) := hts
        have hbd : (p.data.toList.take k).length + [p[k]].length ≤ 16777216 := by rw [htl]; simp; omega
        have HBD : Hid ((p.data.toList.take k).length + [p[k]].length ≤ 16777216) := hbd
        clear hts hbd htl
        go_wp2_with (at_builtin; refine wpList_app w _ rfl (.tmp 81) (.tmp 85) rfl _ _ [p[k]] rfl hh rfl HBD.out ?_; intro v' w1 hh1)
        go_roundw
        case rel => exact ⟨k + 1, by omega, by go_num, by rw [HTS.out]; exact hh1⟩
        case measure => simp [intOf]; omega
      · rw [take_all p k (by omega)] at hh
        clear htl
        have hbd : p.data.toList.length + [q].length ≤ 16777216 := by rw [len_toList]; simp; omega
        have HBD : Hid (p.data.toList.length + [q].length ≤ 16777216) := hbd
        clear hbd
        go_wp2_with (at_builtin; refine wpList_app w _ rfl (.tmp 87) (.tmp 89) rfl _ _ [q] rfl hh rfl HBD.out ?_; intro v' w1 hh1; obtain ⟨g1, cap1, hv1⟩ := has_shape hh1 (by simp); rw [hv1] at hh1; rw [hv1]; clear hv1)
        rw [show (p.data.toList ++ [q]).length = p.size + 1 by simp] at hh1
        clear hh HBD hk hlt
        go_loopw [13, 16] (fun v i wr => ∃ k : Nat, k ≤ c.size ∧ i = .int .i64 k ∧ Has w wr v (p.data.toList ++ [q] ++ Plain.encL q true bq (c.data.toList.take k))) (fun _ i _ => c.size - (intOf i).toNat)
        case atStart => exact ⟨0, Nat.zero_le _, rfl, by simpa [Plain.encL] using hh1⟩
        case round =>
          clear hh1
          obtain ⟨k, hk, rfl, hh⟩ := hrel
          by_cases hlt : k < c.size
          · by_cases hc1 : ((c[k]'hlt).toNat : Int) = (q.toNat : Int)
            · cases bq
              · have HM : Hid (Plain.encL q true false (c.data.toList.take (k + 1)) = Plain.encL q true false (c.data.toList.take k) ++ [q, q]) := enc_quote c q true false k hlt hc1 (by simp)
                have HBD := enc_room p c q true false k [q, q] hk (by omega) (Nat.le_refl _)
                go_wp2_with (at_builtin; refine wpList_app w _ rfl (.tmp 113) (.tmp 116) rfl _ _ [q, q] rfl hh rfl HBD.out ?_; intro v' w2 hh2)
                go_roundw
                case rel => exact ⟨k + 1, by omega, by go_num, by rw [HM.out, ← List.append_assoc]; exact hh2⟩
                case measure => simp [intOf]; omega
              · have HM : Hid (Plain.encL q true true (c.data.toList.take (k + 1)) = Plain.encL q true true (c.data.toList.take k) ++ [92, q]) := enc_back c q k hlt hc1
                have HBD := enc_room p c q true true k [92, q] hk (by omega) (Nat.le_refl _)
                go_wp2_with (at_builtin; refine wpList_app w _ rfl (.tmp 109) (.tmp 111) rfl _ _ [92, q] rfl hh rfl HBD.out ?_; intro v' w2 hh2)
                go_roundw
                case rel => exact ⟨k + 1, by omega, by go_num, by rw [HM.out, ← List.append_assoc]; exact hh2⟩
                case measure => simp [intOf]; omega
            · by_cases hc2 : ((c[k]'hlt).toNat : Int) = 92
              · have HM : Hid (Plain.encL q true bq (c.data.toList.take (k + 1)) = Plain.encL q true bq (c.data.toList.take k) ++ [92, 92]) := enc_slash c q bq k hlt hc1 hc2
                have HBD := enc_room p c q true bq k [92, 92] hk (by omega) (Nat.le_refl _)
                go_wp2_with (at_builtin; refine wpList_app w _ rfl (.tmp 123) (.tmp 124) rfl _ _ [92, 92] rfl hh rfl HBD.out ?_; intro v' w2 hh2)
                go_roundw
                case rel => exact ⟨k + 1, by omega, by go_num, by rw [HM.out, ← List.append_assoc]; exact hh2⟩
                case measure => simp [intOf]; omega
              · have HM : Hid (Plain.encL q true bq (c.data.toList.take (k + 1)) = Plain.encL q true bq (c.data.toList.take k) ++ [c[k]]) := enc_plain c q true bq k hlt hc1 (fun _ => hc2)
                have HBD := enc_room p c q true bq k [c[k]] hk (by omega) (by simp)
                go_wp2_with (at_builtin; refine wpList_app w _ rfl (.tmp 126) (.tmp 128) rfl _ _ [c[k]] rfl hh rfl HBD.out ?_; intro v' w2 hh2)
                go_roundw
                case rel => exact ⟨k + 1, by omega, by go_num, by rw [HM.out, ← List.append_assoc]; exact hh2⟩
                case measure => simp [intOf]; omega
          · rw [take_all c k (by omega)] at hh
            have HBD := enc_room' p c q true bq [q] (by omega) (by simp)
            go_wp2_with (at_builtin; refine wpList_app w _ rfl (.tmp 130) (.tmp 132) rfl _ _ [q] rfl hh rfl HBD.out ?_; intro v' w1 hh1; obtain ⟨L1, hL1⟩ : ∃ L1, L1 = p.data.toList ++ [q] ++ Plain.encL q true bq c.data.toList ++ [q] := ⟨_, rfl⟩; rw [← hL1] at hh1; have HL1 : Hid (L1 = p.data.toList ++ [q] ++ Plain.encL q true bq c.data.toList ++ [q]) := hL1; obtain ⟨g1, cap1, hv1⟩ := has_shape hh1 (enc_len1 p c q true bq _ hL1).1; rw [hv1] at hh1; rw [hv1]; clear hv1 hL1)
            have h1l := enc_len1 p c q true bq L1 HL1.out
            clear hh HBD hk hlt
            go_loopw [13, 19] (fun v i wr => ∃ k : Nat, k ≤ u.size ∧ i = .int .i64 k ∧ Has w wr v (L1 ++ u.data.toList.take k)) (fun _ i _ => u.size - (intOf i).toNat)
            case atStart => exact ⟨0, Nat.zero_le _, rfl, by simpa using hh1⟩
            case round =>
              clear hh1
              obtain ⟨k, hk, rfl, hh⟩ := hrel
              by_cases hlt : k < u.size
              · have HTS : Hid (u.data.toList.take (k + 1) = u.data.toList.take k ++ [u[k]]) := take_snoc u k hlt
                have HBD : Hid ((L1 ++ u.data.toList.take k).length + [u[k]].length ≤ 16777216) := by
                  have := take_len u k hk
                  unfold Hid; simp only [List.length_append, this, List.length_cons, List.length_nil]; omega
                go_wp2_with (at_builtin; refine wpList_app w _ rfl (.tmp 142) (.tmp 146) rfl _ _ [u[k]] rfl hh rfl HBD.out ?_; intro v' w2 hh2)
                go_roundw
                case rel => exact ⟨k + 1, by omega, by go_num, by rw [HTS.out, ← List.append_assoc]; exact hh2⟩
                case measure => simp [intOf]; omega
              · rw [take_all u k (by omega)] at hh
                obtain ⟨F, hF⟩ : ∃ F, F = L1 ++ u.data.toList := ⟨_, rfl⟩
                rw [← hF] at hh
                have HF : Hid (F = L1 ++ u.data.toList) := hF
                clear hF
                have hFl : F.length ≤ 16777216 := by rw [HF.out, List.length_append, len_toList]; omega
                have hFp : 0 < F.length := by rw [HF.out, List.length_append]; omega
                obtain ⟨g3, cap3, hv3⟩ := has_shape hh hFp
                subst hv3
                have hconv := has_convert hh
                have HE : Hid (Plain.qeA F q.toNat true (p.size + 1) = (L1.length : Int)) := enc_end p c u q true bq F L1 HL1.out HF.out (fun h => HQ h.2) HU.out
                have hbel := hh.2
                go_wp2_with fail
                refine (zzqe_at ⟨F.toArray⟩ (p.size + 1) _ _ _ _ (by omega) hFl (by omega)).mono ?_; rintro e w' ⟨rfl, rfl⟩
                go_wp2_with fail
                go_ret
                exact ⟨ret_eq HE.out, hbel⟩
  · clear hu
    go_enter Try.func4, Try.ntmps4
    go_wp2_with (first | (go_at_call 13; refine (g13_yes _ _ _ _ _ _ _ hb).mono ?_; rintro e w' ⟨rfl, hw'⟩; have hw := hw'.symm; clear hw'; subst hw) | (at_make; refine wpList_make_own _ rfl _ _ 25 rfl w.heap.size 5 i0 (.int .u8 0) 1 Try.underlying25 hi hz0 hz1 .i64 .i64 _ (p.size + 2 * c.size + 2 + u.size) rfl rfl (by omega) (by rw [hz2]; omega) (by simp [maxLen]; omega) (Nat.le_refl _) ?_; intro w1 hown1 hgrow1))
    have H1 : Has w w1 (.slice (some ⟨w.heap.size, 0, none⟩) 0 (p.size + 2 * c.size + 2 + u.size)) [] := ⟨hown1, (Below.refl _ _).grown hgrow1 (Nat.le_refl _) (fun j hj => by cases hj)⟩
    clear hown1 hgrow1 hi hz0 hz1 hz2
    go_loopw [13, 14] (fun v i wr => ∃ k : Nat, k ≤ p.size ∧ i = .int .i64 k ∧ Has w wr v (p.data.toList.take k)) (fun _ i _ => p.size - (intOf i).toNat)
    case atStart => exact ⟨0, Nat.zero_le _, rfl, H1⟩
    case round =>
      clear H1
      obtain ⟨k, hk, rfl, hh⟩ := hrel
      have htl := take_len p k hk
      by_cases hlt : k < p.size
      · have hts := take_snoc p k hlt
        have HTS : Hid (p.data.toList.take (k + 1) = p.data.toList.take k ++ [p[k]]) := hts
        have hbd : (p.data.toList.take k).length + [p[k]].length ≤ 16777216 := by rw [htl]; simp; omega
        have HBD : Hid ((p.data.toList.take k).length + [p[k]].length ≤ 16777216) := hbd
        clear hts hbd htl
        go_wp2_with (at_builtin; refine wpList_app w _ rfl (.tmp 81) (.tmp 85) rfl _ _ [p[k]] rfl hh rfl HBD.out ?_; intro v' w1 hh1)
        go_roundw
        case rel => exact ⟨k + 1, by omega, by go_num, by rw [HTS.out]; exact hh1⟩
        case measure => simp [intOf]; omega
      · rw [take_all p k (by omega)] at hh
        clear htl
        have hbd : p.data.toList.length + [q].length ≤ 16777216 := by rw [len_toList]; simp; omega
        have HBD : Hid (p.data.toList.length + [q].length ≤ 16777216) := hbd
        clear hbd
        go_wp2_with (at_builtin; refine wpList_app w _ rfl (.tmp 87) (.tmp 89) rfl _ _ [q] rfl hh rfl HBD.out ?_; intro v' w1 hh1; obtain ⟨g1, cap1, hv1⟩ := has_shape hh1 (by simp); rw [hv1] at hh1; rw [hv1]; clear hv1)
        rw [show (p.data.toList ++ [q]).length = p.size + 1 by simp] at hh1
        clear hh HBD hk hlt
        go_loopw [13, 16] (fun v i wr => ∃ k : Nat, k ≤ c.size ∧ i = .int .i64 k ∧ Has w wr v (p.data.toList ++ [q] ++ Plain.encL q true bq (c.data.toList.take k))) (fun _ i _ => c.size - (intOf i).toNat)
        case atStart => exact ⟨0, Nat.zero_le _, rfl, by simpa [Plain.encL] using hh1⟩
        case round =>
          clear hh1
          obtain ⟨k, hk, rfl, hh⟩ := hrel
          by_cases hlt : k < c.size
          · by_cases hc1 : ((c[k]'hlt).toNat : Int) = (q.toNat : Int)
            · cases bq
              · have HM : Hid (Plain.encL q true false (c.data.toList.take (k + 1)) = Plain.encL q true false (c.data.toList.take k) ++ [q, q]) := enc_quote c q true false k hlt hc1 (by simp)
                have HBD := enc_room p c q true false k [q, q] hk (by omega) (Nat.le_refl _)
                go_wp2_with (at_builtin; refine wpList_app w _ rfl (.tmp 113) (.tmp 116) rfl _ _ [q, q] rfl hh rfl HBD.out ?_; intro v' w2 hh2)
                go_roundw
                case rel => exact ⟨k + 1, by omega, by go_num, by rw [HM.out, ← List.append_assoc]; exact hh2⟩
                case measure => simp [intOf]; omega
              · have HM : Hid (Plain.encL q true true (c.data.toList.take (k + 1)) = Plain.encL q true true (c.data.toList.take k) ++ [92, q]) := enc_back c q k hlt hc1
                have HBD := enc_room p c q true true k [92, q] hk (by omega) (Nat.le_refl _)
                go_wp2_with (at_builtin; refine wpList_app w _ rfl (.tmp 109) (.tmp 111) rfl _ _ [92, q] rfl hh rfl HBD.out ?_; intro v' w2 hh2)
                go_roundw
                case rel => exact ⟨k + 1, by omega, by go_num, by rw [HM.out, ← List.append_assoc]; exact hh2⟩
                case measure => simp [intOf]; omega
            · by_cases hc2 : ((c[k]'hlt).toNat : Int) = 92
              · have HM : Hid (Plain.encL q true bq (c.data.toList.take (k + 1)) = Plain.encL q true bq (c.data.toList.take k) ++ [92, 92]) := enc_slash c q bq k hlt hc1 hc2
                have HBD := enc_room p c q true bq k [92, 92] hk (by omega) (Nat.le_refl _)
                go_wp2_with (at_builtin; refine wpList_app w _ rfl (.tmp 123) (.tmp 124) rfl _ _ [92, 92] rfl hh rfl HBD.out ?_; intro v' w2 hh2)
                go_roundw
                case rel => exact ⟨k + 1, by omega, by go_num, by rw [HM.out, ← List.append_assoc]; exact hh2⟩
                case measure => simp [intOf]; omega
              · have HM : Hid (Plain.encL q true bq (c.data.toList.take (k + 1)) = Plain.encL q true bq (c.data.toList.take k) ++ [c[k]]) := enc_plain c q true bq k hlt hc1 (fun _ => hc2)
                have HBD := enc_room p c q true bq k [c[k]] hk (by omega) (by simp)
                go_wp2_with (at_builtin; refine wpList_app w _ rfl (.tmp 126) (.tmp 128) rfl _ _ [c[k]] rfl hh rfl HBD.out ?_; intro v' w2 hh2)
                go_roundw
                case rel => exact ⟨k + 1, by omega, by go_num, by rw [HM.out, ← List.append_assoc]; exact hh2⟩
                case measure => simp [intOf]; omega
          · rw [take_all c k (by omega)] at hh
            have HBD := enc_room' p c q true bq [q] (by omega) (by simp)
            go_wp2_with (at_builtin; refine wpList_app w _ rfl (.tmp 130) (.tmp 132) rfl _ _ [q] rfl hh rfl HBD.out ?_; intro v' w1 hh1; obtain ⟨L1, hL1⟩ : ∃ L1, L1 = p.data.toList ++ [q] ++ Plain.encL q true bq c.data.toList ++ [q] := ⟨_, rfl⟩; rw [← hL1] at hh1; have HL1 : Hid (L1 = p.data.toList ++ [q] ++ Plain.encL q true bq c.data.toList ++ [q]) := hL1; obtain ⟨g1, cap1, hv1⟩ := has_shape hh1 (enc_len1 p c q true bq _ hL1).1; rw [hv1] at hh1; rw [hv1]; clear hv1 hL1)
            have h1l := enc_len1 p c q true bq L1 HL1.out
            clear hh HBD hk hlt
            go_loopw [13, 19] (fun v i wr => ∃ k : Nat, k ≤ u.size ∧ i = .int .i64 k ∧ Has w wr v (L1 ++ u.data.toList.take k)) (fun _ i _ => u.size - (intOf i).toNat)
            case atStart => exact ⟨0, Nat.zero_le _, rfl, by simpa using hh1⟩
            case round =>
              clear hh1
              obtain ⟨k, hk, rfl, hh⟩ := hrel
              by_cases hlt : k < u.size
              · omega
              · rw [take_all u k (by omega)] at hh
                obtain ⟨F, hF⟩ : ∃ F, F = L1 ++ u.data.toList := ⟨_, rfl⟩
                rw [← hF] at hh
                have HF : Hid (F = L1 ++ u.data.toList) := hF
                clear hF
                have hFl : F.length ≤ 16777216 := by rw [HF.out, List.length_append, len_toList]; omega
                have hFp : 0 < F.length := by rw [HF.out, List.length_append]; omega
                obtain ⟨g3, cap3, hv3⟩ := has_shape hh hFp
                subst hv3
                have hconv := has_convert hh
                have HE : Hid (Plain.qeA F q.toNat true (p.size + 1) = (L1.length : Int)) := enc_end p c u q true bq F L1 HL1.out HF.out (fun h => HQ h.2) HU.out
                have hbel := hh.2
                go_wp2_with fail
                refine (zzqe_at ⟨F.toArray⟩ (p.size + 1) _ _ _ _ (by omega) hFl (by omega)).mono ?_; rintro e w' ⟨rfl, rfl⟩
                go_wp2_with fail
                go_ret
                exact ⟨ret_eq HE.out, hbel⟩
end Go.Proofs.Qxb6600557a.Enc
