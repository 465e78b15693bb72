/- prefixIsLessThan. -/
import Derived.Test.YtodihpaabkplhaaGreatDoorLsp
import Derived.RegionTactic
namespace Go.Proofs.YtodihpaabkplhaaGreatDoor
open Go.RowKit

set_option maxHeartbeats 2000000 in
theorem pref_any (b cap : Nat) (s : Dec) (c : List UInt8) (w : World) (h : DecAt w b s) (hn : s.nd ≤ 800) :
    Calls Tryz.prog 98 #[.slice (some ⟨b, 0, none⟩) s.nd cap, .string ⟨c.toArray⟩] w fun e w' => (∃ n, w' = w.drewN n) ∧ e = .returned (.bool (prefLess s.d s.nd 0 c)) := by
  obtain ⟨d, nd, dp, neg, tr⟩ := s
  simp only at hn ⊢
  obtain ⟨R, hR⟩ : ∃ R, prefLess d nd 0 c = R := ⟨_, rfl⟩
  rw [hR]
  go_enter Tryz.func98, Tryz.ntmps98
  go_wp2_with fail
  go_loopg [5] c.length (fun m i wr => ∃ k t, i = .int .i64 (k : Nat) ∧ m = t.length ∧ k + m = c.length ∧ c.drop k = t ∧ Hid (prefLess d nd k t = R) ∧ DecAt wr b ⟨d, nd, dp, neg, tr⟩ ∧ ∃ n, wr = w.drewN n)
  case atStart => exact ⟨0, c, rfl, rfl, by simp, by simp, hR, h, 0, rfl⟩
  case round =>
    clear hR h
    obtain ⟨k, t, rfl, rfl, hl, ht, hp, hd, hw⟩ := hrel
    have hp0 := hp.out
    clear hp
    cases t with
    | nil =>
      have e1 : k = c.length := by simpa using hl
      subst e1
      have hr : false = R := by rw [← hp0]; rfl
      have HR := Lib.hid hr
      clear hp0 hr
      go_wp2_with fail
      go_ret
      exact ⟨hw, retb HR.out⟩
    | cons x t =>
      simp only [List.length_cons] at hl ⊢
      have hkc : k < c.length := by omega
      have hx : (⟨c.toArray⟩ : ByteArray)[k]'(by show k < c.toArray.size; simpa using hkc) = x := by
        have := congrArg (fun l => l[0]?) ht
        have h2 : c[k]? = some x := by simpa using this
        have h3 : c[k] = x := by rw [List.getElem?_eq_getElem hkc] at h2; exact Option.some.inj h2
        exact h3
      have ht1 : c.drop (k + 1) = t := by
        have := congrArg (fun l => l.drop 1) ht
        simpa using this
      by_cases hk : nd ≤ k
      · have hr : true = R := by rw [← hp0, prefLess, if_pos hk]
        have HR := Lib.hid hr
        clear hp0 hr
        go_wp2_with fail
        go_ret
        exact ⟨hw, retb HR.out⟩
      · have hk' : k < nd := by omega
        have cd := hd.dig (i := k) (by omega)
        simp only at cd
        by_cases e : d k = x
        · rw [e, ← hx] at cd
          have hr := Lib.hid (show prefLess d nd (k + 1) t = R by rw [← hp0, prefLess, if_neg hk, if_pos e])
          clear hp0
          go_wp2_with fail
          go_quiet (fail)
          go_wp2
          go_roundg t.length
          case measure => simp only [List.length_cons]; omega
          case rel =>
            obtain ⟨n, rfl⟩ := hw
            exact ⟨k + 1, t, rfl, rfl, by omega, ht1, hr.out, hd.drewN _, _, World.drewN_drewN _ _ _⟩
        · subst hx
          have hne : (((d k).toNat : Int) == (((⟨c.toArray⟩ : ByteArray)[k]'(by show k < c.toArray.size; simpa using hkc)).toNat : Int)) = false := by
            rw [beq_eq_false_iff_ne]
            exact fun h => e (UInt8.toNat_inj.1 (by omega))
          have hr := Lib.hid (show decide ((d k).toNat < ((⟨c.toArray⟩ : ByteArray)[k]'(by show k < c.toArray.size; simpa using hkc)).toNat) = R by rw [← hp0, prefLess, if_neg hk, if_neg e])
          clear hp0
          go_wp2_with fail
          go_quiet (fail)
          go_wp2
          go_quiet (fail)
          go_wp2
          go_ret
          obtain ⟨n, rfl⟩ := hw
          exact ⟨⟨_, by rw [World.drewN_drewN, World.drewN_drewN]⟩, retb hr.out⟩
end Go.Proofs.YtodihpaabkplhaaGreatDoor
