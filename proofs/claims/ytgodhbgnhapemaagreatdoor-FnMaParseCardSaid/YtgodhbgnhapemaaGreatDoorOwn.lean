/- The program's tie, out of its parts, and each row's tie. Conditions: none. -/
import Derived.Test.YtgodhbgnhapemaaGreatDoorOwn1
import Derived.Test.YtgodhbgnhapemaaGreatDoorOwn2
import Derived.Test.YtgodhbgnhapemaaGreatDoorOwn3
import Derived.Test.YtgodhbgnhapemaaGreatDoorOwn4
import Derived.Test.YtgodhbgnhapemaaGreatDoorOwn5
namespace Go.Proofs.YtgodhbgnhapemaaGreatDoor
open Go
theorem pin_laid_unicode_utf8_first : Tryz.pinned.checked.prog.pinnedFits "unicode/utf8.first" = true := by kernel_rfl
theorem noOwnUnsafe : Tryz.pinned.checked.prog.headLifts.contains "ownunsafe" = false := by kernel_rfl
theorem fits1 : Tryz.pinned.checked.prog.listedFits [("internal/strconv.uint64pow10", Rows.laid_internal_strconv_uint64pow10), ("math/bits.deBruijn32tab", Rows.laid_math_bits_deBruijn32tab), ("math/bits.deBruijn64tab", Rows.laid_math_bits_deBruijn64tab), ("strconv.ErrSyntax", Rows.laid_strconv_ErrSyntax), ("strconv.ErrRange", Rows.laid_strconv_ErrRange), ("pub-brocade/pub/gomultibase.ErrUnsupportedEncoding", Rows.laid_pub_brocade_pub_gomultibase_ErrUnsupportedEncoding), ("unicode/utf8.first", Rows.laid_unicode_utf8_first), ("unicode/utf8.acceptRanges", Rows.laid_unicode_utf8_acceptRanges), ("encoding/hex.ErrLength", Rows.laid_encoding_hex_ErrLength), ("pub-brocade/pub/gomultibase.base256emojiTable", Rows.laid_pub_brocade_pub_gomultibase_base256emojiTable), ("pub-brocade/pub/gomultihash.ErrTooShort", Rows.laid_pub_brocade_pub_gomultihash_ErrTooShort), ("pub-brocade/pub/gomultihash.ErrVarintBufferShort", Rows.laid_pub_brocade_pub_gomultihash_ErrVarintBufferShort), ("pub-brocade/pub/gomultihash.ErrVarintTooLong", Rows.laid_pub_brocade_pub_gomultihash_ErrVarintTooLong), ("pub-brocade/pub/govarint.ErrOverflow", Rows.laid_pub_brocade_pub_govarint_ErrOverflow), ("pub-brocade/pub/govarint.ErrNotMinimal", Rows.laid_pub_brocade_pub_govarint_ErrNotMinimal), ("pub-brocade/pub/govarint.ErrUnderflow", Rows.laid_pub_brocade_pub_govarint_ErrUnderflow), ("pub-brocade/pub/gomultibase.hexTableUppers", Rows.laid_pub_brocade_pub_gomultibase_hexTableUppers), ("net/url.table", Rows.laid_net_url_table), ("pub-brocade/pub/gomultihash.ErrInvalidMultihash", Rows.laid_pub_brocade_pub_gomultihash_ErrInvalidMultihash), ("pub-brocade/pub/gocid.errCidTooShort", Rows.laid_pub_brocade_pub_gocid_errCidTooShort), ("bytes.ErrTooLarge", Rows.laid_bytes_ErrTooLarge), ("pub-brocade/pub/multiaddr.errNilPtr", Rows.laid_pub_brocade_pub_multiaddr_errNilPtr)] = true := by
  unfold Program.listedFits
  rw [noOwnUnsafe]
  kernel_rfl
theorem tie_h2 : ∀ os tape, (DataW.laidRun Tryz.prog (varsWorld Tryz.prog 400 (varsId Tryz.prog) os tape).memory 8 (tieList.map (·.1))).map (fun x => decide x.2.Nodup && laidRowsB Tryz.prog (varsWorld Tryz.prog 400 (varsId Tryz.prog) os tape).memory x.2) = some true := fun os tape => by
  have h1 := tie_n os tape
  have h2 := tie_r1 os tape
  have h3 := tie_r2 os tape
  cases hr : DataW.laidRun Tryz.prog (varsWorld Tryz.prog 400 (varsId Tryz.prog) os tape).memory 8 (tieList.map (·.1)) with
  | none => rw [hr] at h1; cases h1
  | some x =>
    rw [hr] at h1 h2 h3
    simp only [Option.map_some, Option.some.injEq] at h1 h2 h3 ⊢
    have h4 : laidRowsB Tryz.prog (varsWorld Tryz.prog 400 (varsId Tryz.prog) os tape).memory x.2 = true := by
      have e : x.2 = x.2.take 150 ++ x.2.drop 150 := (List.take_append_drop 150 x.2).symm
      rw [e]
      unfold laidRowsB at h2 h3 ⊢
      rw [List.all_append, h2, h3]
      rfl
    rw [h4, decide_eq_true (once_spec _ _ h1).1]
    rfl
theorem tie : Tryz.prog.laidByTextLater [("internal/strconv.uint64pow10", Rows.laid_internal_strconv_uint64pow10), ("math/bits.deBruijn32tab", Rows.laid_math_bits_deBruijn32tab), ("math/bits.deBruijn64tab", Rows.laid_math_bits_deBruijn64tab), ("strconv.ErrSyntax", Rows.laid_strconv_ErrSyntax), ("strconv.ErrRange", Rows.laid_strconv_ErrRange), ("pub-brocade/pub/gomultibase.ErrUnsupportedEncoding", Rows.laid_pub_brocade_pub_gomultibase_ErrUnsupportedEncoding), ("unicode/utf8.acceptRanges", Rows.laid_unicode_utf8_acceptRanges), ("encoding/hex.ErrLength", Rows.laid_encoding_hex_ErrLength), ("pub-brocade/pub/gomultibase.base256emojiTable", Rows.laid_pub_brocade_pub_gomultibase_base256emojiTable), ("pub-brocade/pub/gomultihash.ErrTooShort", Rows.laid_pub_brocade_pub_gomultihash_ErrTooShort), ("pub-brocade/pub/gomultihash.ErrVarintBufferShort", Rows.laid_pub_brocade_pub_gomultihash_ErrVarintBufferShort), ("pub-brocade/pub/gomultihash.ErrVarintTooLong", Rows.laid_pub_brocade_pub_gomultihash_ErrVarintTooLong), ("pub-brocade/pub/govarint.ErrOverflow", Rows.laid_pub_brocade_pub_govarint_ErrOverflow), ("pub-brocade/pub/govarint.ErrNotMinimal", Rows.laid_pub_brocade_pub_govarint_ErrNotMinimal), ("pub-brocade/pub/govarint.ErrUnderflow", Rows.laid_pub_brocade_pub_govarint_ErrUnderflow), ("pub-brocade/pub/gomultibase.hexTableUppers", Rows.laid_pub_brocade_pub_gomultibase_hexTableUppers), ("net/url.table", Rows.laid_net_url_table), ("pub-brocade/pub/gomultihash.ErrInvalidMultihash", Rows.laid_pub_brocade_pub_gomultihash_ErrInvalidMultihash), ("pub-brocade/pub/gocid.errCidTooShort", Rows.laid_pub_brocade_pub_gocid_errCidTooShort), ("bytes.ErrTooLarge", Rows.laid_bytes_ErrTooLarge), ("pub-brocade/pub/multiaddr.errNilPtr", Rows.laid_pub_brocade_pub_multiaddr_errNilPtr)] [.data, .data, .data, .sentinel, .sentinel, .sentinel, .data, .sentinel, .data, .sentinel, .sentinel, .sentinel, .sentinel, .sentinel, .sentinel, .data, .data, .sentinel, .sentinel, .sentinel, .sentinel] true :=
  Program.laidByTextLater_by_run 400 8 (by kernel_rfl) (by kernel_rfl) (by kernel_rfl) (by kernel_rfl) (by kernel_rfl) (by kernel_rfl) tie_d tie_h1 tie_h2
theorem fnMaParse_row_tie : Rows.fnMaParseRow.laidByTextAt .later Tryz.pinned [.data, .data, .data, .sentinel, .sentinel, .sentinel, .pinned, .data, .sentinel, .data, .sentinel, .sentinel, .sentinel, .sentinel, .sentinel, .sentinel, .data, .data, .sentinel, .sentinel, .sentinel, .sentinel] true :=
  OpenClaim.laidByTextAt_pinned rfl rfl tie rfl rfl rfl rfl (fun y hy _e => by
    simp only [Rows.fnMaParseRow, List.zip_cons_cons, List.zip_nil_right, List.mem_cons, List.mem_nil_iff, or_false] at hy
    rcases hy with rfl | rfl | rfl | rfl | rfl | rfl | rfl | rfl | rfl | rfl | rfl | rfl | rfl | rfl | rfl | rfl | rfl | rfl | rfl | rfl | rfl | rfl
    · cases _e
    · cases _e
    · cases _e
    · cases _e
    · cases _e
    · cases _e
    · exact ⟨pin_laid_unicode_utf8_first, by kernel_rfl⟩
    · cases _e
    · cases _e
    · cases _e
    · cases _e
    · cases _e
    · cases _e
    · cases _e
    · cases _e
    · cases _e
    · cases _e
    · cases _e
    · cases _e
    · cases _e
    · cases _e
    · cases _e) fits1
end Go.Proofs.YtgodhbgnhapemaaGreatDoor
