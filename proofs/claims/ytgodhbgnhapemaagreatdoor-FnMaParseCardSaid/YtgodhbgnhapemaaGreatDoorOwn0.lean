/- What the tie lists, and a way to see that places differ. Conditions: none. -/
import Derived.Test.YtgodhbgnhapemaaGreatDoorRows
import Derived.LaidByTextLater
import Derived.SevenTiedAt
namespace Go.Proofs.YtgodhbgnhapemaaGreatDoor
open Go
noncomputable def tieList : List (String × DataW Unit) := [("internal/strconv.uint64pow10", Rows.laid_internal_strconv_uint64pow10), ("math/bits.deBruijn32tab", Rows.laid_math_bits_deBruijn32tab), ("math/bits.deBruijn64tab", Rows.laid_math_bits_deBruijn64tab), ("strconv.ErrSyntax", Rows.laid_strconv_ErrSyntax), ("strconv.ErrRange", Rows.laid_strconv_ErrRange), ("pub-brocade/pub/gomultibase.ErrUnsupportedEncoding", Rows.laid_pub_brocade_pub_gomultibase_ErrUnsupportedEncoding), ("unicode/utf8.acceptRanges", Rows.laid_unicode_utf8_acceptRanges), ("encoding/hex.ErrLength", Rows.laid_encoding_hex_ErrLength), ("pub-brocade/pub/gomultibase.base256emojiTable", Rows.laid_pub_brocade_pub_gomultibase_base256emojiTable), ("pub-brocade/pub/gomultihash.ErrTooShort", Rows.laid_pub_brocade_pub_gomultihash_ErrTooShort), ("pub-brocade/pub/gomultihash.ErrVarintBufferShort", Rows.laid_pub_brocade_pub_gomultihash_ErrVarintBufferShort), ("pub-brocade/pub/gomultihash.ErrVarintTooLong", Rows.laid_pub_brocade_pub_gomultihash_ErrVarintTooLong), ("pub-brocade/pub/govarint.ErrOverflow", Rows.laid_pub_brocade_pub_govarint_ErrOverflow), ("pub-brocade/pub/govarint.ErrNotMinimal", Rows.laid_pub_brocade_pub_govarint_ErrNotMinimal), ("pub-brocade/pub/govarint.ErrUnderflow", Rows.laid_pub_brocade_pub_govarint_ErrUnderflow), ("pub-brocade/pub/gomultibase.hexTableUppers", Rows.laid_pub_brocade_pub_gomultibase_hexTableUppers), ("net/url.table", Rows.laid_net_url_table), ("pub-brocade/pub/gomultihash.ErrInvalidMultihash", Rows.laid_pub_brocade_pub_gomultihash_ErrInvalidMultihash), ("pub-brocade/pub/gocid.errCidTooShort", Rows.laid_pub_brocade_pub_gocid_errCidTooShort), ("bytes.ErrTooLarge", Rows.laid_bytes_ErrTooLarge), ("pub-brocade/pub/multiaddr.errNilPtr", Rows.laid_pub_brocade_pub_multiaddr_errNilPtr)]
/-- Each place stands there once: the places are gathered as bits of a number. -/
def once : List MemPlace → Nat → Bool
  | [], _ => true
  | .cell b off :: r, acc =>
    match Nat.blt off 4096 with
    | false => false
    | true => match Nat.testBit acc (b * 4096 + off) with | true => false | false => once r (acc ||| 2 ^ (b * 4096 + off))
  | .map _ :: _, _ => false
theorem once_spec : ∀ (l : List MemPlace) (acc : Nat), once l acc = true → l.Nodup ∧ ∀ p ∈ l, ∃ b off, p = .cell b off ∧ Nat.testBit acc (b * 4096 + off) = false := by
  intro l
  induction l with
  | nil => intro acc _; exact ⟨List.nodup_nil, fun p hp => by cases hp⟩
  | cons p r ih =>
    intro acc h
    cases p with
    | map b => simp only [once] at h; cases h
    | cell b off =>
      simp only [once] at h
      cases hb : Nat.blt off 4096 with
      | false => rw [hb] at h; cases h
      | true =>
        rw [hb] at h
        simp only at h
        cases ht : Nat.testBit acc (b * 4096 + off) with
        | true => rw [ht] at h; cases h
        | false =>
          rw [ht] at h
          simp only at h
          obtain ⟨h1, h2⟩ := ih _ h
          refine ⟨List.nodup_cons.2 ⟨fun hm => ?_, h1⟩, fun p hp => ?_⟩
          · obtain ⟨b', off', he, hf⟩ := h2 _ hm
            cases he
            rw [Nat.testBit_or, Nat.testBit_two_pow_self, Bool.or_true] at hf
            cases hf
          · cases hp with
            | head => exact ⟨b, off, rfl, ht⟩
            | tail _ hp =>
              obtain ⟨b', off', he, hf⟩ := h2 _ hp
              refine ⟨b', off', he, ?_⟩
              rw [Nat.testBit_or] at hf
              exact (Bool.or_eq_false_iff.1 hf).1
end Go.Proofs.YtgodhbgnhapemaaGreatDoor
