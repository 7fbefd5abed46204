/- What is proved: of every text of up to 65536 bytes the program's Known and Size answer as the reference's size does (sha256, sha384, sha512: 32, 48, 64; any other: 0). No condition. -/
import Derived.Test.YtcmifkepleedmaaPFnDigestKnownx1
namespace Go.Proofs.Ytcmifkepleedmaa.Pure
open Go.RowKit Go.Proofs.Ytcmifkepleedmaa.PFnDigestKnown Go.Proofs.YtcmifkepleedmaaW.PrintWords Go.Proofs.YtcmifkepleedmaaW.PrintLast

theorem FnDigestKnown : laws_FnDigestKnown.Pure := by
  intro s _
  unfold laws_FnDigestKnown.f impl_DigestSize.f godigest_Algorithm_Size.f impl_DigestKnown.f godigest_Algorithm_Available.f godigest_zzSize.f spec_DigestSize.f
  by_cases a : (s.size : Int) > 2147483647
  · rw [if_pos a]
  · rw [if_neg a]
    by_cases b : (s.size : Int) > 65536
    · rw [if_pos b]
    · rw [if_neg b]
      by_cases c : s.toList = ([115, 104, 97, 50, 53, 54] : List UInt8)
      · simp only [if_pos c]; decide
      · by_cases d : s.toList = ([115, 104, 97, 51, 56, 52] : List UInt8)
        · simp only [if_neg c, if_pos d]; decide
        · by_cases e : s.toList = ([115, 104, 97, 53, 49, 50] : List UInt8)
          · simp only [if_neg c, if_neg d, if_pos e]; decide
          · simp only [if_neg c, if_neg d, if_neg e]; decide

end Go.Proofs.Ytcmifkepleedmaa.Pure
