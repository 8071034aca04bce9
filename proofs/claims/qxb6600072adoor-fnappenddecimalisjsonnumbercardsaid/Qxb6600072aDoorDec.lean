/-
  'appendDecimal' and 'ZZappendDecimal', all forms in one contract.
-/
import Derived.Test.Qxb6600072aDoorDecP
namespace Go.Proofs.Qxb6600072aDoor
open Go.RowKit

theorem dec_any (v : Value) (l ds : List UInt8) (neg : Bool) (exp : Int) (bd : Nat) (w : World) (hB : Buf w v l w) (hwf : WF ds) (hd : Seg w bd 0 ds) (x0 : -9223372036854775808 ≤ exp) (x1 : exp ≤ 9223372036854775807)
    (hl : l.length ≤ 1048576) (hn : ds.length ≤ 1048576) (htab : Tab w) :
    Calls Tryd.prog 35 #[v, .bool neg, .slice (some ⟨bd, 0, none⟩) ds.length ds.length, .int .i64 exp] w fun e w' => Written w l ds neg exp e w' := by
  by_cases h1 : 21 ≤ exp
  · by_cases hb : 1 < ds.length
    · cases neg
      · exact dec_exp_pbp v l ds exp bd w hB hwf hd x0 x1 hl hn htab hb h1
      · exact dec_exp_mbp v l ds exp bd w hB hwf hd x0 x1 hl hn htab hb h1
    · cases neg
      · exact dec_exp_psp v l ds exp bd w hB hwf hd x0 x1 hl hn htab hb h1
      · exact dec_exp_msp v l ds exp bd w hB hwf hd x0 x1 hl hn htab hb h1
  · by_cases h2 : exp < -6
    · by_cases hb : 1 < ds.length
      · cases neg
        · exact dec_exp_pbn v l ds exp bd w hB hwf hd x0 x1 hl hn htab hb h2
        · exact dec_exp_mbn v l ds exp bd w hB hwf hd x0 x1 hl hn htab hb h2
      · cases neg
        · exact dec_exp_psn v l ds exp bd w hB hwf hd x0 x1 hl hn htab hb h2
        · exact dec_exp_msn v l ds exp bd w hB hwf hd x0 x1 hl hn htab hb h2
    · by_cases h3 : exp < 0
      · cases neg
        · exact dec_small_p v l ds exp bd w hB hwf hd (by omega) h3 hl hn
        · exact dec_small_m v l ds exp bd w hB hwf hd (by omega) h3 hl hn
      · by_cases h4 : (ds.length : Int) ≤ exp + 1
        · cases neg
          · exact dec_int_p v l ds exp bd w hB hwf hd (by omega) (by omega) h4 hl hn
          · exact dec_int_m v l ds exp bd w hB hwf hd (by omega) (by omega) h4 hl hn
        · obtain ⟨m, rfl⟩ := Int.eq_ofNat_of_zero_le (show 0 ≤ exp by omega)
          cases neg
          · exact dec_mid_p v l ds m bd w hB hwf hd (by omega) (by omega) hl hn
          · exact dec_mid_m v l ds m bd w hB hwf hd (by omega) (by omega) hl hn

set_option maxHeartbeats 400000 in
theorem zzdec_any (v : Value) (l ds : List UInt8) (neg : Bool) (exp : Int) (bd : Nat) (w : World) (hB : Buf w v l w) (hwf : WF ds) (hd : Seg w bd 0 ds) (x0 : -9223372036854775808 ≤ exp) (x1 : exp ≤ 9223372036854775807)
    (hl : l.length ≤ 1048576) (hn : ds.length ≤ 1048576) (htab : Tab w) :
    Calls Tryd.prog 14 #[v, .bool neg, .slice (some ⟨bd, 0, none⟩) ds.length ds.length, .int .i64 exp] w fun e w' => Written w l ds neg exp e w' := by
  go_enter Tryd.func14, Tryd.ntmps14
  go_wp2_with fail
  refine (dec_any v l ds neg exp bd w hB hwf hd x0 x1 hl hn htab).mono ?_
  rintro e w' ⟨v', I, F, E, rfl, hf, ho⟩
  go_wp2
  go_ret
  exact ⟨v', I, F, E, rfl, hf, ho⟩

end Go.Proofs.Qxb6600072aDoor
