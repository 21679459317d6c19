import Derived.Test.Qxb6000062aDoorFields
import Derived.Deep.QuietTactic
import Derived.BigQuiet
import Derived.Laws.IdiomStrings
/-! zzSplitAmp, zzKeyVal: the contracts. -/
namespace Go.Proofs.Qxb6000062aDoor.pm
open Go Go.RowKit Go.Lib Go.Sort
set_option linter.unusedVariables false

theorem info22 : (Tryd.prog.info? 22).map (fun i => (i.zero, i.size, i.bytes)) = some (some (.slice none 0 0), 1, 24) := by kernel_rfl

/-- a field as zzSplitAmp hands it back: a part of the text's own row -/
def mkF (g o c : Nat) (p : Nat × Nat) : Value := .slice (some ⟨g, o + p.1, none⟩) (p.2 - p.1) (c - p.1)

theorem mkF_one (g o c : Nat) (l : List (Nat × Nat)) : ∀ u ∈ l.map (mkF g o c), u.oneCell' = true := by
  intro u hu
  obtain ⟨p, _, rfl⟩ := List.mem_map.1 hu
  rfl

set_option maxHeartbeats 3200000 in
theorem zzSplitAmp_any (g o c : Nat) (T : List UInt8) (w : World) (hlen : T.length ≤ 4194304) (hcap : T.length ≤ c) (hcm : c ≤ 9223372036854775807) (hlast : ∀ s j : Nat, (s, j) ∈ segs T 0 0 → s < c)
    (hc : ∀ j (hj : j < T.length), w.cell? ⟨g, o + j, none⟩ = some (.int .u8 (T[j].toNat : Int))) :
    Calls Tryd.prog 18 #[.slice (some ⟨g, o, none⟩) T.length c] w fun e w' => ∃ v, e = .returned v ∧ Below w.heap.size w w' ∧ w'.ownsRow w.heap.size 22 1 v (segs T 0 0).length ((segs T 0 0).map (mkF g o c)) := by
  obtain ⟨i0, hi, hz0, hz1, hz2⟩ := info_parts info22
  go_enter Tryd.func18, Tryd.ntmps18
  go_wp2
  go_loopw [3, 4, 5] (fun v st i wr => ∃ (j s : Nat) (acc : List (Nat × Nat)), j ≤ T.length ∧ s ≤ j ∧ i = .int .i64 j ∧ st = .int .i64 s ∧ Below w.heap.size w wr ∧ wr.ownsRow w.heap.size 22 1 v acc.length (acc.map (mkF g o c)) ∧ Hid (segs T 0 0 = acc ++ segs (T.drop j) j s) ∧ acc.length ≤ j)
    (fun _ _ i _ => T.length - (RowKit.intOf i).toNat)
  case atStart => exact ⟨0, 0, [], Nat.zero_le _, Nat.le_refl _, rfl, rfl, Below.refl _ _, World.ownsRow_nil _ _ _ _, show _ = _ by simp, Nat.le_refl _⟩
  case round =>
    obtain ⟨j, s, acc, hj, hs, rfl, rfl, hb, ho, HE, hal⟩ := hrel
    by_cases hlt : j < T.length
    · have hcx := cellLater hb (hc j hlt)
      have hdrop : Hid (T.drop j = T[j] :: T.drop (j + 1)) := List.drop_eq_getElem_cons hlt
      by_cases hamp : T[j] = 38
      · have hE2 : Hid (segs T 0 0 = (acc ++ [(s, j)]) ++ segs (T.drop (j + 1)) (j + 1) (j + 1)) := by
          show _ = _
          rw [HE.out, hdrop.out, segs, if_pos hamp, List.append_assoc]; rfl
        have hamp' : (T[j].toNat : Int) = 38 := by rw [hamp]; rfl
        have hsc : s < c := by omega
        clear hc hdrop HE
        rw [hamp'] at hcx
        go_wp2_with (at_builtin; refine wpList_append_own _ rfl _ _ 36 rfl w.heap.size 22 i0 (.slice none 0 0) 1 24 Tryd.underlying36 hi hz0 hz1 hz2 rfl (by decide) _ _ _ rfl (ho.alloc _) ⟨wr.heap.size, 0, none⟩ 1 1 [mkF g o c (s, j)] rfl rfl ?c1 ?c2 ?c3 ?c4 ?c5 ?_)
        case c1 =>
          intro l u hu
          match l, hu with
          | 0, hu => simp at hu; subst hu; simp [Addr.add, mkF]
        case c2 => intro u hu; simp at hu; subst hu; rfl
        case c3 => unfold maxLen; omega
        case c4 => omega
        case c5 => have := hb.size; simp; omega
        intro v1 w1 hown1 hgrow _
        have hb1 : Below w.heap.size w w1 := (hb.alloc hb.size _).grown hgrow (by have := hb.size; simp; omega) (fun k hk => (ho.lt k hk).1)
        have ho1 : w1.ownsRow w.heap.size 22 1 v1 (acc ++ [(s, j)]).length ((acc ++ [(s, j)]).map (mkF g o c)) := by
          rw [List.length_append, List.map_append]; exact hown1
        clear hown1 hgrow ho hb
        go_wp2
        go_roundw
        case rel => exact ⟨j + 1, j + 1, acc ++ [(s, j)], by omega, by omega, by go_num, by go_num, hb1, ho1, hE2, by simp; omega⟩
        case measure => simp [RowKit.intOf]; omega
      · have hE2 : Hid (segs T 0 0 = acc ++ segs (T.drop (j + 1)) (j + 1) s) := by
          show _ = _
          rw [HE.out, hdrop.out, segs, if_neg hamp]
        have hamp' : ((T[j].toNat : Int) == 38) = false := by
          rw [beq_eq_false_iff_ne]
          intro h
          apply hamp
          apply UInt8.toNat_inj.1
          have : T[j].toNat = 38 := by omega
          rw [this]; rfl
        clear hc hdrop HE
        go_wp2
        go_roundw
        case rel => exact ⟨j + 1, s, acc, by omega, by omega, by go_num, rfl, hb, ho, hE2, by omega⟩
        case measure => simp [RowKit.intOf]; omega
    · obtain rfl : j = T.length := by omega
      have hE2 : Hid (segs T 0 0 = acc ++ [(s, T.length)]) := by
        show _ = _
        rw [HE.out, List.drop_of_length_le (Nat.le_refl _)]; rfl
      have hsc : s < c := hlast s T.length (by rw [hE2.out]; simp)
      clear hc HE hlast
      go_wp2_with (at_builtin; refine wpList_append_own _ rfl _ _ 36 rfl w.heap.size 22 i0 (.slice none 0 0) 1 24 Tryd.underlying36 hi hz0 hz1 hz2 rfl (by decide) _ _ _ rfl (ho.alloc _) ⟨wr.heap.size, 0, none⟩ 1 1 [mkF g o c (s, T.length)] rfl rfl ?d1 ?d2 ?d3 ?d4 ?d5 ?_)
      case d1 =>
        intro l u hu
        match l, hu with
        | 0, hu => simp at hu; subst hu; simp [Addr.add, mkF]
      case d2 => intro u hu; simp at hu; subst hu; rfl
      case d3 => unfold maxLen; omega
      case d4 => omega
      case d5 => have := hb.size; simp; omega
      intro v1 w1 hown1 hgrow _
      have hb1 : Below w.heap.size w w1 := (hb.alloc hb.size _).grown hgrow (by have := hb.size; simp; omega) (fun k hk => (ho.lt k hk).1)
      have ho1 : w1.ownsRow w.heap.size 22 1 v1 (segs T 0 0).length ((segs T 0 0).map (mkF g o c)) := by
        rw [hE2.out, List.length_append, List.map_append]; exact hown1
      clear hown1 hgrow ho hb
      go_wp2
      go_ret
      exact ⟨v1, rfl, hb1, ho1⟩

set_option maxHeartbeats 3200000 in
theorem zzKeyVal_any (g o c : Nat) (K V : List UInt8) (w : World) (hK : ∀ b ∈ K, b ≠ 61) (hlen : (K ++ 61 :: V).length ≤ 4194304) (hcap : (K ++ 61 :: V).length ≤ c) (hst : K.length + 1 < c) (hcm : c ≤ 9223372036854775807)
    (hc : ∀ j (hj : j < (K ++ 61 :: V).length), w.cell? ⟨g, o + j, none⟩ = some (.int .u8 ((K ++ 61 :: V)[j].toNat : Int))) :
    Calls Tryd.prog 19 #[.slice (some ⟨g, o, none⟩) (K ++ 61 :: V).length c] w fun e w' => e = .returned (.tuple #[.string ⟨K.toArray⟩, .slice (some ⟨g, o + (K.length + 1), none⟩) V.length (c - (K.length + 1)), .bool true]) ∧ Below w.heap.size w w' := by
  have hl : (K ++ 61 :: V).length = K.length + 1 + V.length := by simp; omega
  have hcK : ∀ j (hj : j < K.length), w.cell? ⟨g, o + j, none⟩ = some (.int .u8 (K[j].toNat : Int)) := fun j hj => by
    have := hc j (by omega)
    rw [List.getElem_append_left hj] at this
    exact this
  have hcE : w.cell? ⟨g, o + K.length, none⟩ = some (.int .u8 61) := by
    have := hc K.length (by omega)
    rw [List.getElem_append_right (Nat.le_refl _)] at this
    simp only [Nat.sub_self, List.getElem_cons_zero] at this
    exact this
  rw [hl]
  rw [hl] at hlen hcap
  clear hc hl
  go_enter Tryd.func19, Tryd.ntmps19
  go_wp2
  go_loop [5] (fun i => ∃ j : Nat, j ≤ K.length ∧ i = .int .i64 j) (fun i => K.length - (RowKit.intOf i).toNat)
  case atStart => exact ⟨0, Nat.zero_le _, rfl⟩
  case round =>
    obtain ⟨j, hj, rfl⟩ := hrel
    by_cases hlt : j < K.length
    · have hcx := hcK j hlt
      have hne : ((K[j].toNat : Int) == 61) = false := by
        rw [beq_eq_false_iff_ne]
        intro h
        apply hK K[j] (List.getElem_mem hlt)
        apply UInt8.toNat_inj.1
        have : K[j].toNat = 61 := by omega
        rw [this]; rfl
      clear hcK hcE hK
      go_wp2
      go_round
      case rel => exact ⟨j + 1, by omega, by go_num⟩
      case measure => simp [RowKit.intOf]; omega
    · obtain rfl : j = K.length := by omega
      have hcv : ∀ W : World, (∀ a, W.cell? a = w.cell? a) → (convert 22 9 (.slice (some ⟨g, o, none⟩) K.length c)).run Tryd.prog W = .ok (.string ⟨K.toArray⟩) W := fun W hW =>
        run_convert_bytes_back (P := Tryd.prog) W 22 9 5 ⟨g, o, none⟩ c K Tryd.underlying22 Tryd.underlying5 Tryd.underlying9 (fun l hl => by rw [hW, add_plain]; exact hcK l hl)
      have hcv1 := hcv w.drew (fun _ => rfl)
      have hcv2 := hcv w (fun _ => rfl)
      clear hcK hK hcv
      go_wp2_with fail
      go_region
      go_wp2
      go_ret3
      exact ⟨rfl, (Below.refl _ _).drew⟩
end Go.Proofs.Qxb6000062aDoor.pm
