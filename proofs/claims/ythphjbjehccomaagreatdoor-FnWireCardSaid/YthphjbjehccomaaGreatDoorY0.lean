/-
  A part of the tie of the package's variables: what the program's own initialiser leaves in them.
-/
import Derived.Test.YthphjbjehccomaaGreatDoorRows
import Derived.LaidByTextLater
import Derived.SevenTiedAt
import Derived.LaidSub
import Derived.LaidOnce
import Derived.KernelRfl
namespace Go.Proofs.YthphjbjehccomaaGreatDoor
open Go
set_option maxRecDepth 100000
def tieList : List (String × DataW Unit) := [("loop.example/pub-g03078/pub/sctp.ErrChunkHeaderTooSmall", Rows.laid_loop_example_pub_g03078_pub_sctp_ErrChunkHeaderTooSmall), ("loop.example/pub-g03078/pub/sctp.ErrUnmarshalUnknownChunkType", Rows.laid_loop_example_pub_g03078_pub_sctp_ErrUnmarshalUnknownChunkType), ("loop.example/pub-g03078/pub/sctp.ErrPacketRawTooSmall", Rows.laid_loop_example_pub_g03078_pub_sctp_ErrPacketRawTooSmall), ("loop.example/pub-g03078/pub/sctp.ErrChecksumMismatch", Rows.laid_loop_example_pub_g03078_pub_sctp_ErrChecksumMismatch), ("loop.example/pub-g03078/pub/sctp.ErrParseSCTPChunkNotEnoughData", Rows.laid_loop_example_pub_g03078_pub_sctp_ErrParseSCTPChunkNotEnoughData), ("loop.example/pub-g03078/pub/sctp.ErrChunkTypeUnhandled", Rows.laid_loop_example_pub_g03078_pub_sctp_ErrChunkTypeUnhandled), ("loop.example/pub-g03078/pub/sctp.ErrChunkPayloadSmall", Rows.laid_loop_example_pub_g03078_pub_sctp_ErrChunkPayloadSmall), ("loop.example/pub-g03078/pub/sctp.ErrChunkHeaderNotEnoughSpace", Rows.laid_loop_example_pub_g03078_pub_sctp_ErrChunkHeaderNotEnoughSpace), ("loop.example/pub-g03078/pub/sctp.ErrChunkHeaderPaddingNonZero", Rows.laid_loop_example_pub_g03078_pub_sctp_ErrChunkHeaderPaddingNonZero), ("math/bits.deBruijn64tab", Rows.laid_math_bits_deBruijn64tab), ("loop.example/pub-g03078/pub/sctp.ErrChunkTypeNotSack", Rows.laid_loop_example_pub_g03078_pub_sctp_ErrChunkTypeNotSack), ("loop.example/pub-g03078/pub/sctp.ErrSackSizeNotLargeEnoughInfo", Rows.laid_loop_example_pub_g03078_pub_sctp_ErrSackSizeNotLargeEnoughInfo), ("loop.example/pub-g03078/pub/sctp.ErrSackSizeNotMatchPredicted", Rows.laid_loop_example_pub_g03078_pub_sctp_ErrSackSizeNotMatchPredicted), ("loop.example/pub-g03078/pub/sctp.errReassemblyQueueLimitExceeded", Rows.laid_loop_example_pub_g03078_pub_sctp_errReassemblyQueueLimitExceeded), ("loop.example/pub-g03078/pub/sctp.errReassemblyQueueMIDLimitExceeded", Rows.laid_loop_example_pub_g03078_pub_sctp_errReassemblyQueueMIDLimitExceeded), ("loop.example/pub-g03078/pub/sctp.errTryAgain", Rows.laid_loop_example_pub_g03078_pub_sctp_errTryAgain), ("io.ErrShortBuffer", Rows.laid_io_ErrShortBuffer)]
def tieKinds : List LaidKind := [.sentinel, .sentinel, .sentinel, .sentinel, .sentinel, .sentinel, .sentinel, .sentinel, .sentinel, .data, .sentinel, .sentinel, .sentinel, .sentinel, .sentinel, .sentinel, .sentinel]
end Go.Proofs.YthphjbjehccomaaGreatDoor
